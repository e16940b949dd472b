import JvmDerived
import JvmDerived.Pilot.@@N@@Statement
import JvmDerived.Pilot.@@N@@Code
set_option linter.unusedVariables false
set_option linter.unusedSimpArgs false
@@BLOCK:NumsL.lean.txt@@
namespace Jvm.Pilot.@@N@@
open Jvm Jvm.ClassFile Sem Op Lib Jvm.Free Jvm.Stand Jvm.LawKit Jvm.RoadKit Bundle Jvm.Pilot.@@N@@.Jvm.D
abbrev lv (x : Int64) : Slot := .val (.long x)
/-- the run goes on from U and ends as Q says -/
def Goes (p : Program) (e : Env) (below : List Frame) (U : State) (Q : Outcome → State → Prop) : Prop := ∃ s₂ o, Steps p.tables e below U s₂ ∧ s₂.status = .running ∧ Ended s₂ below o ∧ Q o s₂
theorem Goes.by {p : Program} {e : Env} {below : List Frame} {U U' : State} {Q : Outcome → State → Prop} (h : ∀ t, Steps p.tables e below U' t → Steps p.tables e below U t) (g : Goes p e below U' Q) : Goes p e below U Q := by
  obtain ⟨s, o, h1, h2⟩ := g; exact ⟨s, o, h _ h1, h2⟩
theorem Goes.tr {p : Program} {e : Env} {below : List Frame} {U U' : State} {Q : Outcome → State → Prop} (h : Steps p.tables e below U U') (g : Goes p e below U' Q) : Goes p e below U Q := Goes.by (fun _ k => h.trans k) g
theorem Goes.join {α : Type} {p : Program} {e : Env} {below : List Frame} {U : State} {Q : Outcome → State → Prop} (P : α → Prop) (S : α → State) (k : (∀ z, P z → Goes p e below (S z) Q) → Goes p e below U Q) (j : ∀ z, P z → Goes p e below (S z) Q) : Goes p e below U Q := k j
theorem Goes.out {p : Program} {e : Env} {below : List Frame} {U : State} {Q : Outcome → State → Prop} (g : Goes p e below U Q) : ∃ s₂ o, Steps p.tables e below U s₂ ∧ s₂.status = .running ∧ Ended s₂ below o ∧ Q o s₂ := g
/-- a callee that writes nothing and returns r -/
def QP (r : Option Value) (h0 : Heap) (n0 : Nat) (v : Option Value) (h : Heap) (L : List Loc) : Prop := v = r ∧ Fr n0 L ∧ h = h0
/-- the law -/
def QL (n0 : Nat) (v : Option Value) (h : Heap) (L : List Loc) : Prop := v = some (.int 1) ∧ Fr n0 L
theorem own_lt {a b : Int64} (h : a < b) : lcmpW a b < 0 := by rw [lcW]; exact (lc_lt a b).mpr h
theorem own_nlt {a b : Int64} (h : ¬ a < b) : ¬ lcmpW a b < 0 := by rw [lcW]; exact fun q => h ((lc_lt a b).mp q)
theorem own_gt {a b : Int64} (h : b < a) : 0 < lcmpW a b := by rw [lcW]; exact (lc_gt a b).mpr h
theorem own_ngt {a b : Int64} (h : ¬ b < a) : ¬ 0 < lcmpW a b := by rw [lcW]; exact fun q => h ((lc_gt a b).mp q)
theorem own_eq {a b : Int64} (h : a = b) : lcmpW a b = 0 := by rw [lcW]; exact (lc_eq a b).mpr h
theorem own_neq {a b : Int64} (h : ¬ a = b) : ¬ lcmpW a b = 0 := by rw [lcW]; exact fun q => h ((lc_eq a b).mp q)
theorem own_staKeep {Z : State} {h h' : Heap} {C n d : String} {v : Value} {ws : List Addr} (F : Sta Z h C n d v) (K : Keep h h' ws) (q : ∀ x ∈ ws, ∃ c : Cell, h[x]? = some c ∧ c.vm.isStatics = false) : Sta Z h' C n d v := by
  obtain ⟨cf, i, k, f, st, cell, h1, h2, h3, h4, h5, h6, h7⟩ := F
  refine ⟨cf, i, k, f, st, cell, h1, h2, h3, h4, K.2.1 st cell h5 (fun hm => ?_), h6, h7⟩
  obtain ⟨c, e1, e2⟩ := q st hm
  cases e1.symm.trans h5; rw [e2] at h6; cases h6
theorem own_nsE {Z : State} {h : Heap} {a : Addr} {C : String} (F : Exa Z h a C) : ∃ c : Cell, h[a]? = some c ∧ c.vm.isStatics = false := by
  obtain ⟨c, k, h1, h2, h3, h4, h5⟩ := F; exact ⟨c, h1, h4⟩
theorem own_nsV {Z : State} {h : Heap} {a : Addr} {k : ClassId} {ty : FieldType} {n : Int32} {vs : List Value} {d : Value} (F : Arv Z h a k ty n vs d) : ∃ c : Cell, h[a]? = some c ∧ c.vm.isStatics = false := by
  obtain ⟨c, A, r⟩ := F; exact ⟨c, A.1, A.plain⟩
theorem own_fldI {s : State} {args : Array Value} {t : Term} {a : Addr} {C n d : String} {k : Int32} (ev : t.eval args s none [] s = some (.ref a)) (h : (Cond.eq (.field t C n d) (.int k)).value args s none s [] = some true) : Fld s s.heap a C n d (.int k) := by
  obtain ⟨x, y, h1, h2, k1, k2⟩ := cmp_v (Or.inl h)
  obtain rfl : y = .int k := (Option.some.inj h2).symm
  obtain ⟨z, rfl⟩ := k2
  have e1 : (Cond.eq (.field t C n d) (.int k)).value args s none s [] = some (decide (z = k)) := by simp [Cond.value, h1, h2]
  have e2 : z = k := gotT e1 h
  subst e2
  rw [fld_at ev] at h1
  exact Fld.start h1
theorem own_fldR {s : State} {args : Array Value} {t u : Term} {a b : Addr} {C n d : String} (ev : t.eval args s none [] s = some (.ref a)) (eu : u.eval args s none [] s = some (.ref b)) (h : (Cond.eq (.field t C n d) u).value args s none s [] = some true) : Fld s s.heap a C n d (.ref b) := by
  obtain ⟨x, y, h1, h2, k1, k2⟩ := cmp_v (Or.inl h)
  obtain rfl : y = .ref b := Option.some.inj (h2.symm.trans eu)
  have hx : x.isRef = true := k2.2
  have e2 : x = .ref b := gotT (eq_R h1 h2 hx rfl) h
  subst e2
  rw [fld_at ev] at h1
  exact Fld.start h1
def OwnMir (Z : State) (C : String) (mm : Addr) : Prop := ∃ (c : ClassId) (k : Class), Z.vm.findClass C = some c ∧ Z.vm.classes[c]? = some k ∧ k.mirror = some mm
theorem own_mir {Z s : State} {args : Array Value} {C : String} {mm : Addr} (hZ : Z.Warmed39 s.vm) (M : OwnMir Z C mm) : (Term.mirror C).eval args s none [] s = some (.ref mm) := by
  obtain ⟨c, k, h1, h2, h3⟩ := M
  obtain ⟨k', q, ek⟩ := hZ.alike.2.2 _ _ h2
  have h1' : s.vm.findClass C = some c := by rw [hZ.alike.findClass]; exact h1
  have h3' : k'.mirror = some mm := by rw [ek]; exact h3
  simp [Term.eval, h1', q, h3']
theorem own_mirOf {Z s T : State} {h : Heap} {a : Addr} {C : String} {mm : Addr} (hZ : Z.Warmed39 s.vm) (eT : T.heap = h) (E : Exa Z h a C) (M : OwnMir Z C mm) : ∃ cB kB, s.vm.findClass C = some cB ∧ s.vm.classes[cB]? = some kB ∧ IsOf cB T a ∧ kB.mirror = some mm := by
  obtain ⟨cB, kB, q1, q2, q3⟩ := isOf hZ eT E
  obtain ⟨c, k, h1, h2, h3⟩ := M
  rw [← hZ.alike.findClass, q1] at h1
  cases h1
  obtain ⟨k', q, ek⟩ := hZ.alike.2.2 _ _ h2
  cases q2.symm.trans q
  exact ⟨cB, kB, q1, q2, q3, by rw [ek]; exact h3⟩
theorem own_f (x : Int32) : (x &&& (1 : Int32)) = (0 : Int32) ∨ (x &&& (1 : Int32)) = (1 : Int32) := by
  have e1 : ((x &&& (1 : Int32))).toInt = x.toInt % 2 ^ 1 := Jvm.Kit.i32_mask x (1 : Int32) (k := 1) (by decide) (by decide)
  simp only [← Int32.toInt_inj]
  rw [show (0 : Int32).toInt = 0 from by decide, show (1 : Int32).toInt = 1 from by decide]
  omega
theorem d1_0 : decode prog_7_method_1_code 0 = .ok (.aload_n 0, 1) := by decide +kernel
theorem d1_1 : decode prog_7_method_1_code 1 = .ok (.invokespecial 1, 3) := by decide +kernel
theorem d1_4 : decode prog_7_method_1_code 4 = .ok (.aload_n 0, 1) := by decide +kernel
theorem d1_5 : decode prog_7_method_1_code 5 = .ok (.new 7, 3) := by decide +kernel
theorem d1_8 : decode prog_7_method_1_code 8 = .ok (.dup, 1) := by decide +kernel
theorem d1_9 : decode prog_7_method_1_code 9 = .ok (.invokespecial 9, 3) := by decide +kernel
theorem d3_0 : decode jdk_38_method_2_code 0 = .ok (.aload_n 0, 1) := by decide +kernel
theorem d3_1 : decode jdk_38_method_2_code 1 = .ok (.invokespecial 1, 3) := by decide +kernel
theorem d4_0 : decode jdk_39_method_1_code 0 = .ok (.aload_n 0, 1) := by decide +kernel
theorem d4_1 : decode jdk_39_method_1_code 1 = .ok (.invokespecial 1, 3) := by decide +kernel
theorem d5_0 : decode jdk_22_method_1_code 0 = .ok (.aload_n 0, 1) := by decide +kernel
theorem d5_1 : decode jdk_22_method_1_code 1 = .ok (.invokespecial 1, 3) := by decide +kernel
theorem d5_4 : decode jdk_22_method_1_code 4 = .ok (.return_, 1) := by decide +kernel
theorem ef5_R (m : MethodId) (x0 : Addr) : entryFrame m #[(.ref x0)] 1 = mkF m 0 #[rv x0] [] := by first | (simp [entryFrame, mkF, argsToLocals, Value.category]; done) | rfl
theorem pn0 : plainName "java/util/AbstractCollection" = true := by first | (simp [plainName, overriddenIn]; done) | decide +kernel
theorem pd0 : parseMethodDescriptor "()V" = some ⟨[], none⟩ := by decide +kernel
theorem d4_4 : decode jdk_39_method_1_code 4 = .ok (.aload_n 0, 1) := by decide +kernel
theorem d4_5 : decode jdk_39_method_1_code 5 = .ok (.iconst 0, 1) := by decide +kernel
theorem d4_6 : decode jdk_39_method_1_code 6 = .ok (.putfield 7, 3) := by decide +kernel
theorem d4_9 : decode jdk_39_method_1_code 9 = .ok (.return_, 1) := by decide +kernel
theorem ef4_R (m : MethodId) (x0 : Addr) : entryFrame m #[(.ref x0)] 1 = mkF m 0 #[rv x0] [] := by first | (simp [entryFrame, mkF, argsToLocals, Value.category]; done) | rfl
theorem pn1 : plainName "java/util/AbstractList" = true := by first | (simp [plainName, overriddenIn]; done) | decide +kernel
theorem d3_4 : decode jdk_38_method_2_code 4 = .ok (.aload_n 0, 1) := by decide +kernel
theorem d3_5 : decode jdk_38_method_2_code 5 = .ok (.getstatic 39, 3) := by decide +kernel
theorem d3_8 : decode jdk_38_method_2_code 8 = .ok (.putfield 9, 3) := by decide +kernel
theorem d3_11 : decode jdk_38_method_2_code 11 = .ok (.return_, 1) := by decide +kernel
theorem ef3_R (m : MethodId) (x0 : Addr) : entryFrame m #[(.ref x0)] 1 = mkF m 0 #[rv x0] [] := by first | (simp [entryFrame, mkF, argsToLocals, Value.category]; done) | rfl
theorem pn2 : plainName "java/util/ArrayList" = true := by first | (simp [plainName, overriddenIn]; done) | decide +kernel
theorem d1_12 : decode prog_7_method_1_code 12 = .ok (.putfield 10, 3) := by decide +kernel
theorem d1_15 : decode prog_7_method_1_code 15 = .ok (.aload_n 0, 1) := by decide +kernel
theorem d1_16 : decode prog_7_method_1_code 16 = .ok (.aload_n 0, 1) := by decide +kernel
theorem d1_17 : decode prog_7_method_1_code 17 = .ok (.getfield 10, 3) := by decide +kernel
theorem d1_20 : decode prog_7_method_1_code 20 = .ok (.invokestatic 16, 3) := by decide +kernel
theorem d6_0 : decode jdk_79_method_35_code 0 = .ok (.aload_n 0, 1) := by decide +kernel
theorem d6_1 : decode jdk_79_method_35_code 1 = .ok (.invokeinterface 211 1, 5) := by decide +kernel
theorem d6_6 : decode jdk_79_method_35_code 6 = .ok (.ldc 212, 2) := by decide +kernel
theorem d6_8 : decode jdk_79_method_35_code 8 = .ok (.if_acmp .eq 14, 3) := by decide +kernel
theorem d6_22 : decode jdk_79_method_35_code 22 = .ok (.aload_n 0, 1) := by decide +kernel
theorem d6_23 : decode jdk_79_method_35_code 23 = .ok (.areturn, 1) := by decide +kernel
theorem d6_11 : decode jdk_79_method_35_code 11 = .ok (.aload_n 0, 1) := by decide +kernel
theorem d6_12 : decode jdk_79_method_35_code 12 = .ok (.invokeinterface 214 1, 5) := by decide +kernel
theorem d6_17 : decode jdk_79_method_35_code 17 = .ok (.ldc 215, 2) := by decide +kernel
theorem d6_19 : decode jdk_79_method_35_code 19 = .ok (.if_acmp .ne 5, 3) := by decide +kernel
theorem d6_24 : decode jdk_79_method_35_code 24 = .ok (.aload_n 0, 1) := by decide +kernel
theorem d6_25 : decode jdk_79_method_35_code 25 = .ok (.instanceof 13, 3) := by decide +kernel
theorem d6_28 : decode jdk_79_method_35_code 28 = .ok (.ifCond .eq 14, 3) := by decide +kernel
theorem d6_31 : decode jdk_79_method_35_code 31 = .ok (.new 215, 3) := by decide +kernel
theorem d6_34 : decode jdk_79_method_35_code 34 = .ok (.dup, 1) := by decide +kernel
theorem d6_35 : decode jdk_79_method_35_code 35 = .ok (.aload_n 0, 1) := by decide +kernel
theorem d6_36 : decode jdk_79_method_35_code 36 = .ok (.invokespecial 217, 3) := by decide +kernel
theorem d7_0 : decode jdk_121_method_1_code 0 = .ok (.aload_n 0, 1) := by decide +kernel
theorem d7_1 : decode jdk_121_method_1_code 1 = .ok (.aload_n 1, 1) := by decide +kernel
theorem d7_2 : decode jdk_121_method_1_code 2 = .ok (.invokespecial 1, 3) := by decide +kernel
theorem d8_0 : decode jdk_120_method_1_code 0 = .ok (.aload_n 0, 1) := by decide +kernel
theorem d8_1 : decode jdk_120_method_1_code 1 = .ok (.aload_n 1, 1) := by decide +kernel
theorem d8_2 : decode jdk_120_method_1_code 2 = .ok (.invokespecial 1, 3) := by decide +kernel
theorem d9_0 : decode jdk_119_method_1_code 0 = .ok (.aload_n 0, 1) := by decide +kernel
theorem d9_1 : decode jdk_119_method_1_code 1 = .ok (.invokespecial 1, 3) := by decide +kernel
theorem d9_4 : decode jdk_119_method_1_code 4 = .ok (.aload_n 1, 1) := by decide +kernel
theorem d9_5 : decode jdk_119_method_1_code 5 = .ok (.ifnonnull 11, 3) := by decide +kernel
theorem d9_16 : decode jdk_119_method_1_code 16 = .ok (.aload_n 0, 1) := by decide +kernel
theorem d9_17 : decode jdk_119_method_1_code 17 = .ok (.aload_n 1, 1) := by decide +kernel
theorem d9_18 : decode jdk_119_method_1_code 18 = .ok (.putfield 10, 3) := by decide +kernel
theorem d9_21 : decode jdk_119_method_1_code 21 = .ok (.return_, 1) := by decide +kernel
theorem ef9_RR (m : MethodId) (x0 : Addr) (x1 : Addr) : entryFrame m #[(.ref x0), (.ref x1)] 2 = mkF m 0 #[rv x0, rv x1] [] := by first | (simp [entryFrame, mkF, argsToLocals, Value.category]; done) | rfl
theorem pn3 : plainName "java/util/Collections$UnmodifiableCollection" = true := by first | (simp [plainName, overriddenIn]; done) | decide +kernel
theorem pd1 : parseMethodDescriptor "(Ljava/util/Collection;)V" = some ⟨[(.object "java/util/Collection")], none⟩ := by decide +kernel
theorem d8_5 : decode jdk_120_method_1_code 5 = .ok (.aload_n 0, 1) := by decide +kernel
theorem d8_6 : decode jdk_120_method_1_code 6 = .ok (.aload_n 1, 1) := by decide +kernel
theorem d8_7 : decode jdk_120_method_1_code 7 = .ok (.putfield 7, 3) := by decide +kernel
theorem d8_10 : decode jdk_120_method_1_code 10 = .ok (.return_, 1) := by decide +kernel
theorem ef8_RR (m : MethodId) (x0 : Addr) (x1 : Addr) : entryFrame m #[(.ref x0), (.ref x1)] 2 = mkF m 0 #[rv x0, rv x1] [] := by first | (simp [entryFrame, mkF, argsToLocals, Value.category]; done) | rfl
theorem pn4 : plainName "java/util/Collections$UnmodifiableList" = true := by first | (simp [plainName, overriddenIn]; done) | decide +kernel
theorem pd2 : parseMethodDescriptor "(Ljava/util/List;)V" = some ⟨[(.object "java/util/List")], none⟩ := by decide +kernel
theorem d7_5 : decode jdk_121_method_1_code 5 = .ok (.return_, 1) := by decide +kernel
theorem ef7_RR (m : MethodId) (x0 : Addr) (x1 : Addr) : entryFrame m #[(.ref x0), (.ref x1)] 2 = mkF m 0 #[rv x0, rv x1] [] := by first | (simp [entryFrame, mkF, argsToLocals, Value.category]; done) | rfl
theorem pn5 : plainName "java/util/Collections$UnmodifiableRandomAccessList" = true := by first | (simp [plainName, overriddenIn]; done) | decide +kernel
theorem d6_39 : decode jdk_79_method_35_code 39 = .ok (.goto 11, 3) := by decide +kernel
theorem d6_50 : decode jdk_79_method_35_code 50 = .ok (.areturn, 1) := by decide +kernel
theorem ef6_R (m : MethodId) (x0 : Addr) : entryFrame m #[(.ref x0)] 1 = mkF m 0 #[rv x0] [] := by first | (simp [entryFrame, mkF, argsToLocals, Value.category]; done) | rfl
theorem pn6 : plainName "java/util/Collections" = true := by first | (simp [plainName, overriddenIn]; done) | decide +kernel
theorem pd3 : parseMethodDescriptor "(Ljava/util/List;)Ljava/util/List;" = some ⟨[(.object "java/util/List")], some (.object "java/util/List")⟩ := by decide +kernel
theorem d1_23 : decode prog_7_method_1_code 23 = .ok (.putfield 22, 3) := by decide +kernel
theorem d1_26 : decode prog_7_method_1_code 26 = .ok (.aload_n 0, 1) := by decide +kernel
theorem d1_27 : decode prog_7_method_1_code 27 = .ok (.invokestatic 25, 3) := by decide +kernel
theorem d10_0 : decode jdk_96_method_17_code 0 = .ok (.getstatic 9, 3) := by decide +kernel
theorem d10_3 : decode jdk_96_method_17_code 3 = .ok (.areturn, 1) := by decide +kernel
theorem ef10_ (m : MethodId)  : entryFrame m #[] 0 = mkF m 0 #[] [] := by first | (simp [entryFrame, mkF, argsToLocals, Value.category]; done) | rfl
theorem pn7 : plainName "java/util/Set" = true := by first | (simp [plainName, overriddenIn]; done) | decide +kernel
theorem pd4 : parseMethodDescriptor "()Ljava/util/Set;" = some ⟨[], some (.object "java/util/Set")⟩ := by decide +kernel
theorem d1_30 : decode prog_7_method_1_code 30 = .ok (.putfield 31, 3) := by decide +kernel
theorem d1_33 : decode prog_7_method_1_code 33 = .ok (.return_, 1) := by decide +kernel
theorem ef1_R (m : MethodId) (x0 : Addr) : entryFrame m #[(.ref x0)] 1 = mkF m 0 #[rv x0] [] := by first | (simp [entryFrame, mkF, argsToLocals, Value.category]; done) | rfl
theorem pn8 : plainName "com/example/entail/entail/model/EntrySettings" = true := by first | (simp [plainName, overriddenIn]; done) | decide +kernel
theorem d11_0 : decode prog_7_method_3_code 0 = .ok (.aload_n 0, 1) := by decide +kernel
theorem d11_1 : decode prog_7_method_3_code 1 = .ok (.getfield 35, 3) := by decide +kernel
theorem d11_4 : decode prog_7_method_3_code 4 = .ok (.ireturn, 1) := by decide +kernel
theorem ef11_R (m : MethodId) (x0 : Addr) : entryFrame m #[(.ref x0)] 1 = mkF m 0 #[rv x0] [] := by first | (simp [entryFrame, mkF, argsToLocals, Value.category]; done) | rfl
theorem pd5 : parseMethodDescriptor "()Z" = some ⟨[], some .boolean⟩ := by decide +kernel
theorem d12_0 : decode prog_7_method_7_code 0 = .ok (.aload_n 0, 1) := by decide +kernel
theorem d12_1 : decode prog_7_method_7_code 1 = .ok (.getfield 35, 3) := by decide +kernel
theorem d12_4 : decode prog_7_method_7_code 4 = .ok (.iload_n 1, 1) := by decide +kernel
theorem d12_5 : decode prog_7_method_7_code 5 = .ok (.if_icmp .eq 7, 3) := by decide +kernel
theorem d12_12 : decode prog_7_method_7_code 12 = .ok (.iconst 0, 1) := by decide +kernel
theorem d12_13 : decode prog_7_method_7_code 13 = .ok (.istore_n 2, 1) := by decide +kernel
theorem d12_14 : decode prog_7_method_7_code 14 = .ok (.aload_n 0, 1) := by decide +kernel
theorem d12_15 : decode prog_7_method_7_code 15 = .ok (.iload_n 1, 1) := by decide +kernel
theorem d12_16 : decode prog_7_method_7_code 16 = .ok (.putfield 35, 3) := by decide +kernel
theorem d12_19 : decode prog_7_method_7_code 19 = .ok (.iload_n 2, 1) := by decide +kernel
theorem d12_20 : decode prog_7_method_7_code 20 = .ok (.ireturn, 1) := by decide +kernel
theorem ef12_RI (m : MethodId) (x0 : Addr) (x1 : Int32) : entryFrame m #[(.ref x0), (.int x1)] 3 = mkF m 0 #[rv x0, iv x1, .unset] [] := by first | (simp [entryFrame, mkF, argsToLocals, Value.category]; done) | rfl
theorem pd6 : parseMethodDescriptor "(Z)Z" = some ⟨[.boolean], some .boolean⟩ := by decide +kernel
theorem d12_8 : decode prog_7_method_7_code 8 = .ok (.iconst 1, 1) := by decide +kernel
theorem d12_9 : decode prog_7_method_7_code 9 = .ok (.goto 4, 3) := by decide +kernel
theorem ef0_II (m : MethodId) (x0 : Int32) (x1 : Int32) : entryFrame m #[(.int x0), (.int x1)] maxLocals = mkF m 0 #[iv x0, iv x1, .unset, .unset, .unset, .unset, .unset, .unset, .unset, .unset, .unset] [] := by first | (simp [entryFrame, mkF, argsToLocals, Value.category, maxLocals]; done) | rfl
theorem pn9 : plainName "com/example/entail/entail/model/EntrySettingsSetBlocksPinLaw" = true := by first | (simp [plainName, overriddenIn]; done) | decide +kernel
def Q_r5_9 (Z : State) (b5 : Addr) (h0 : Heap) (n0 : Nat) (v : Option Value) (h : Heap) (L : List Loc) : Prop := (v = none ∧ Fr n0 L ∧ h = h0)
set_option maxRecDepth 65536 in
set_option maxHeartbeats 40000000 in
theorem r5_9 (l : Launch) (Z : State) (a0 : Array Value) (hw : ∀ d ∈ tables_1, d.before a0 Z = true) (ws : List Jvm.Cond) (h0 : Heap) (n0 : Nat) (Z0 : n0 ≤ h0.size) (b5 : Addr)   :
    MetFree l (⟨"java/util/AbstractCollection", "<init>", "()V"⟩ : MethodName) (head1 (Jvm.Cond.code (⟨"java/util/AbstractCollection", "<init>", "()V"⟩ : MethodName) jdk_22_method_1_code 1 none :: ws) ({ frames := 1, cells := 0, slots := 0, locals := 12 } : Room)) (fun a U => a = #[(.ref b5)] ∧ Z.Warmed39 U.vm ∧ U.heap = h0) (fun _ _ _ _ _ => True) (fun _ U o U' => ∃ v L, o = .returned v ∧ Q_r5_9 Z b5 h0 n0 v U'.heap L ∧ FrameEnd U o U' L ({ frames := 1, cells := 0, slots := 0, locals := 12 } : Room).cells ({ frames := 1, cells := 0, slots := 0, locals := 12 } : Room).slots) := by
  refine MetFree.of_bodySF (plainFor_of_name pn0) hisR ?_
  intro p e s m args below meth c s₁ Bd hml0 hP hK
  obtain ⟨rfl, hZ, hh⟩ := hP
  have hx := Bd.exec
  have hby := Bd.bytes
  have hml : c.maxLocals = 1 := hml0
  have hown : s.vm.findClass "java/util/AbstractCollection" = some m.cls := findClass_of_methodNamed Bd.named
  have hnm := (name_of_methodNamed Bd.named Bd.method).1
  have X0 : Stand p l e ({ frames := 1, cells := 0, slots := 0, locals := 12 } : Room) s m #[(.ref b5)] below meth c s₁ [] 0 0 := Stand.of_body Bd
  have e0 : s₁.heap = h0 := by rw [← hh, Bd.state]; rfl
  have N0 := Fr.nil n0
  refine Goes.out (Goes.by (fun tz kz => castTop (ef5_R m b5) kz) ?_)
  show Goes p e below (s₁.setTop (mkF m 0 #[rv b5] [])) _
  refine Goes.by (fun _ kz => XS.aloadN X0.here hx rfl (hb hby d5_0) rfl rfl kz) ?_
  obtain ⟨T12, X12, e12, st12⟩ := initO X0 hx hZ hown (hw _ (List.mem_of_getElem? (i := 27) rfl)) (hw _ (List.mem_of_getElem? (i := 7) rfl)) (hw _ (List.mem_of_getElem? (i := 8) rfl)) e0 (g := (mkF m 1 #[rv b5] [(.ref b5)])) rfl (by rw [hml]; rfl) rfl (hb hby d5_1) (by decide) (W := 0) (by show 2 * 0 + _ ≤ _; exact Nat.le_of_eq rfl) (by decide)
  refine Goes.by st12 ?_
  show Goes p e below (T12.setTop (mkF m 4 #[rv b5] [])) _
  obtain ⟨fs, hr, hrun, hended, hW, hsame⟩ := X12.leave (v := none) (fun _ => rfl)
  exact ⟨_, _, X12.returnOut hx Bd.returns (hb hby d5_4) hr, hrun, hended, _, _, rfl, ⟨rfl, N0, e12⟩, ⟨_, rfl⟩, hW, hsame.mono (by decide) (by decide)⟩
def Q_r4_7 (Z : State) (b5 : Addr) (h0 : Heap) (n0 : Nat) (v : Option Value) (h : Heap) (L : List Loc) : Prop := (v = none ∧ Fr n0 L ∧ Keep h0 h [b5] ∧ Fld Z h b5 "java/util/AbstractList" "modCount" "I" (.int 0) ∧ Fld Z h b5 "java/util/ArrayList" "elementData" "[Ljava/lang/Object;" .null)
set_option maxRecDepth 65536 in
set_option maxHeartbeats 40000000 in
theorem r4_7 (l : Launch) (Z : State) (a0 : Array Value) (hw : ∀ d ∈ tables_1, d.before a0 Z = true) (ws : List Jvm.Cond) (h0 : Heap) (n0 : Nat) (Z0 : n0 ≤ h0.size) (b5 : Addr) (u8_7 : Exa Z h0 b5 "java/util/ArrayList") (u8_8 : Fld Z h0 b5 "java/util/AbstractList" "modCount" "I" (.int 0)) (u8_9 : Fld Z h0 b5 "java/util/ArrayList" "elementData" "[Ljava/lang/Object;" .null) (g_b5 : n0 ≤ b5) :
    MetFree l (⟨"java/util/AbstractList", "<init>", "()V"⟩ : MethodName) (head1 (Jvm.Cond.code (⟨"java/util/AbstractList", "<init>", "()V"⟩ : MethodName) jdk_39_method_1_code 1 none :: ws) ({ frames := 2, cells := 0, slots := 0, locals := 24 } : Room)) (fun a U => a = #[(.ref b5)] ∧ Z.Warmed39 U.vm ∧ U.heap = h0) (fun _ _ _ _ _ => True) (fun _ U o U' => ∃ v L, o = .returned v ∧ Q_r4_7 Z b5 h0 n0 v U'.heap L ∧ FrameEnd U o U' L ({ frames := 2, cells := 0, slots := 0, locals := 24 } : Room).cells ({ frames := 2, cells := 0, slots := 0, locals := 24 } : Room).slots) := by
  refine MetFree.of_bodySF (plainFor_of_name pn1) hisR ?_
  intro p e s m args below meth c s₁ Bd hml0 hP hK
  obtain ⟨rfl, hZ, hh⟩ := hP
  have hx := Bd.exec
  have hby := Bd.bytes
  have hml : c.maxLocals = 1 := hml0
  have hown : s.vm.findClass "java/util/AbstractList" = some m.cls := findClass_of_methodNamed Bd.named
  have hnm := (name_of_methodNamed Bd.named Bd.method).1
  have X0 : Stand p l e ({ frames := 2, cells := 0, slots := 0, locals := 24 } : Room) s m #[(.ref b5)] below meth c s₁ [] 0 0 := Stand.of_body Bd
  have e0 : s₁.heap = h0 := by rw [← hh, Bd.state]; rfl
  have N0 := Fr.nil n0
  refine Goes.out (Goes.by (fun tz kz => castTop (ef4_R m b5) kz) ?_)
  show Goes p e below (s₁.setTop (mkF m 0 #[rv b5] [])) _
  refine Goes.by (fun _ kz => XS.aloadN X0.here hx rfl (hb hby d4_0) rfl rfl kz) ?_
  obtain ⟨_, _, ⟨T13, L13, k13, n13⟩, -, X13, ⟨Lc13, hQ13, l13, y13, z13⟩, st13⟩ := X0.specialBack hx (y := (⟨"java/util/AbstractCollection", "<init>", "()V"⟩ : MethodName)) rfl hown (mvT hZ (hw _ (List.mem_of_getElem? (i := 21) rfl))) (mvT hZ (hw _ (List.mem_of_getElem? (i := 22) rfl))) (mvT hZ (hw _ (List.mem_of_getElem? (i := 26) rfl))) (by decide) (backOf (W := 0) (r5_9 l Z a0 hw [] h0 n0 Z0 b5) hZ (hw _ (List.mem_of_getElem? (i := 26) rfl)) (hw _ (List.mem_of_getElem? (i := 25) rfl)) (by decide) (by decide)) (g := (mkF m 1 #[rv b5] [(.ref b5)])) rfl (by rw [hml]; rfl) (Steps.refl _) (a := b5) (argsL := []) (rest := []) (lenOf pd0 rfl) rfl (by show 2 * 0 + _ ≤ _; exact Nat.le_of_eq rfl) (hb hby d4_1) (fun _ _ => ⟨rfl, e0, (by decide : 0 + 0 ≤ _), (by decide : 0 + 0 ≤ _)⟩)
  dsimp only [Pt.U, Pt.locs, Pt.cells, Pt.slots] at X13 l13 y13 z13 st13 hQ13
  subst l13 y13 z13
  obtain ⟨rfl, Nq13, e13⟩ := hQ13
  have N13 := Fr.app N0 Nq13
  refine Goes.tr st13 ?_
  refine Goes.by (fun _ kz => XS.aloadN X13.here hx rfl (hb hby d4_4) rfl rfl (XS.iconst X13.here hx rfl (hb hby d4_5) kz)) ?_
  obtain ⟨T14, h14, X14, e14, W14, st14⟩ := putF X13 hx hZ hown (host := "") (Or.inl (hw _ (List.mem_of_getElem? (i := 28) rfl))) Via.refl e13 u8_8 u8_7 (Or.inl (hw _ (List.mem_of_getElem? (i := 29) rfl))) (hw _ (List.mem_of_getElem? (i := 10) rfl)) (ty := .int) (by decide) rfl rfl (g := (mkF m 6 #[rv b5] [(.int 0), (.ref b5)])) rfl rfl (hb hby d4_6)
  have Fw14 := Fld.same W14 u8_8
  have K14 : Keep h0 h14 [b5] := Keep.wr (Keep.refl h0 [b5]) W14 (Or.inl (List.mem_of_getElem? (i := 0) rfl))
  have Z14 : n0 ≤ h14.size := Nat.le_trans Z0 (Keep.of_wr W14).1
  have N14 := Fr.snoc X14 N13 g_b5
  refine Goes.by st14 ?_
  show Goes p e below (T14.setTop (mkF m 9 #[rv b5] [])) _
  have f15 := (Fld.other W14 u8_9 (Or.inr (slot_ne (Or.inl (hw _ (List.mem_of_getElem? (i := 32) rfl))) (Or.inl (hw _ (List.mem_of_getElem? (i := 29) rfl))) (by decide) (t := (.array (.object "java/lang/Object"))) (t' := .int) (by decide) (by decide))))
  obtain ⟨fs, hr, hrun, hended, hW, hsame⟩ := X14.leave (v := none) (fun _ => rfl)
  exact ⟨_, _, X14.returnOut hx Bd.returns (hb hby d4_9) hr, hrun, hended, _, _, rfl, (by rw [show (T14.setFrames fs).heap = h14 from e14]; exact ⟨rfl, N14, K14, Fw14, f15⟩), ⟨_, rfl⟩, hW, hsame.mono (by decide) (by decide)⟩
def Q_r3_5 (Z : State) (q1 : Addr) (b5 : Addr) (h0 : Heap) (n0 : Nat) (v : Option Value) (h : Heap) (L : List Loc) : Prop := (v = none ∧ Fr n0 L ∧ Keep h0 h [b5] ∧ Fld Z h b5 "java/util/AbstractList" "modCount" "I" (.int 0) ∧ Fld Z h b5 "java/util/ArrayList" "elementData" "[Ljava/lang/Object;" (.ref q1))
set_option maxRecDepth 65536 in
set_option maxHeartbeats 40000000 in
theorem r3_5 (l : Launch) (Z : State) (a0 : Array Value) (hw : ∀ d ∈ tables_1, d.before a0 Z = true) (ws : List Jvm.Cond) (h0 : Heap) (n0 : Nat) (Z0 : n0 ≤ h0.size) (q1 : Addr) (b5 : Addr) (u6_0 : Sta Z h0 "java/util/ArrayList" "DEFAULTCAPACITY_EMPTY_ELEMENTDATA" "[Ljava/lang/Object;" (.ref q1)) (u6_7 : Exa Z h0 b5 "java/util/ArrayList") (u6_8 : Fld Z h0 b5 "java/util/AbstractList" "modCount" "I" (.int 0)) (u6_9 : Fld Z h0 b5 "java/util/ArrayList" "elementData" "[Ljava/lang/Object;" .null) (g_b5 : n0 ≤ b5) :
    MetFree l (⟨"java/util/ArrayList", "<init>", "()V"⟩ : MethodName) (head1 (Jvm.Cond.code (⟨"java/util/ArrayList", "<init>", "()V"⟩ : MethodName) jdk_38_method_2_code 1 none :: ws) ({ frames := 3, cells := 0, slots := 0, locals := 36 } : Room)) (fun a U => a = #[(.ref b5)] ∧ Z.Warmed39 U.vm ∧ U.heap = h0) (fun _ _ _ _ _ => True) (fun _ U o U' => ∃ v L, o = .returned v ∧ Q_r3_5 Z q1 b5 h0 n0 v U'.heap L ∧ FrameEnd U o U' L ({ frames := 3, cells := 0, slots := 0, locals := 36 } : Room).cells ({ frames := 3, cells := 0, slots := 0, locals := 36 } : Room).slots) := by
  refine MetFree.of_bodySF (plainFor_of_name pn2) hisR ?_
  intro p e s m args below meth c s₁ Bd hml0 hP hK
  obtain ⟨rfl, hZ, hh⟩ := hP
  have hx := Bd.exec
  have hby := Bd.bytes
  have hml : c.maxLocals = 1 := hml0
  have hown : s.vm.findClass "java/util/ArrayList" = some m.cls := findClass_of_methodNamed Bd.named
  have hnm := (name_of_methodNamed Bd.named Bd.method).1
  have X0 : Stand p l e ({ frames := 3, cells := 0, slots := 0, locals := 36 } : Room) s m #[(.ref b5)] below meth c s₁ [] 0 0 := Stand.of_body Bd
  have e0 : s₁.heap = h0 := by rw [← hh, Bd.state]; rfl
  have N0 := Fr.nil n0
  refine Goes.out (Goes.by (fun tz kz => castTop (ef3_R m b5) kz) ?_)
  show Goes p e below (s₁.setTop (mkF m 0 #[rv b5] [])) _
  refine Goes.by (fun _ kz => XS.aloadN X0.here hx rfl (hb hby d3_0) rfl rfl kz) ?_
  obtain ⟨_, _, ⟨T16, L16, k16, n16⟩, -, X16, ⟨Lc16, hQ16, l16, y16, z16⟩, st16⟩ := X0.specialBack hx (y := (⟨"java/util/AbstractList", "<init>", "()V"⟩ : MethodName)) rfl hown (mvT hZ (hw _ (List.mem_of_getElem? (i := 15) rfl))) (mvT hZ (hw _ (List.mem_of_getElem? (i := 16) rfl))) (mvT hZ (hw _ (List.mem_of_getElem? (i := 20) rfl))) (by decide) (backOf (W := 0) (r4_7 l Z a0 hw [] h0 n0 Z0 b5 u6_7 u6_8 u6_9 g_b5) hZ (hw _ (List.mem_of_getElem? (i := 20) rfl)) (hw _ (List.mem_of_getElem? (i := 19) rfl)) (by decide) (by decide)) (g := (mkF m 1 #[rv b5] [(.ref b5)])) rfl (by rw [hml]; rfl) (Steps.refl _) (a := b5) (argsL := []) (rest := []) (lenOf pd0 rfl) rfl (by show 2 * 0 + _ ≤ _; exact Nat.le_of_eq rfl) (hb hby d3_1) (fun _ _ => ⟨rfl, e0, (by decide : 0 + 0 ≤ _), (by decide : 0 + 0 ≤ _)⟩)
  dsimp only [Pt.U, Pt.locs, Pt.cells, Pt.slots] at X16 l16 y16 z16 st16 hQ16
  subst l16 y16 z16
  obtain ⟨rfl, Nq16, Kq16, fq16_0, fq16_1⟩ := hQ16
  have K16 : Keep h0 T16.heap [b5] := Keep.trans (Keep.refl h0 [b5]) Kq16 (allS (Or.inl (List.mem_of_getElem? (i := 0) rfl)) all0)
  have Z16 : n0 ≤ T16.heap.size := Nat.le_trans Z0 Kq16.1
  have N16 := Fr.app N0 Nq16
  refine Goes.tr st16 ?_
  refine Goes.by (fun _ kz => XS.aloadN X16.here hx rfl (hb hby d3_4) rfl rfl kz) ?_
  have f17 := (own_staKeep u6_0 Kq16 (allS (own_nsE u6_7) all0))
  obtain ⟨T18, X18, e18, st18⟩ := getS2 X16 hx hZ hown (host := "") (Or.inl (hw _ (List.mem_of_getElem? (i := 30) rfl))) Via.refl rfl f17 (g := (mkF m 5 #[rv b5] [(.ref b5)])) rfl (hb hby d3_5)
  refine Goes.by st18 ?_
  have f19 := (u6_7.keep Kq16)
  obtain ⟨T20, h20, X20, e20, W20, st20⟩ := putF X18 hx hZ hown (host := "") (Or.inl (hw _ (List.mem_of_getElem? (i := 31) rfl))) Via.refl e18 fq16_1 f19 (Or.inl (hw _ (List.mem_of_getElem? (i := 32) rfl))) (hw _ (List.mem_of_getElem? (i := 10) rfl)) (ty := (.array (.object "java/lang/Object"))) (by decide) rfl rfl (g := (mkF m 8 #[rv b5] [(.ref q1), (.ref b5)])) rfl rfl (hb hby d3_8)
  have Fw20 := Fld.same W20 fq16_1
  have K20 : Keep h0 h20 [b5] := Keep.wr K16 W20 (Or.inl (List.mem_of_getElem? (i := 0) rfl))
  have Z20 : n0 ≤ h20.size := Nat.le_trans Z16 (Keep.of_wr W20).1
  have N20 := Fr.snoc X20 N16 g_b5
  refine Goes.by st20 ?_
  show Goes p e below (T20.setTop (mkF m 11 #[rv b5] [])) _
  have f21 := (Fld.other W20 fq16_0 (Or.inr (slot_ne (Or.inl (hw _ (List.mem_of_getElem? (i := 29) rfl))) (Or.inl (hw _ (List.mem_of_getElem? (i := 32) rfl))) (by decide) (t := .int) (t' := (.array (.object "java/lang/Object"))) (by decide) (by decide))))
  obtain ⟨fs, hr, hrun, hended, hW, hsame⟩ := X20.leave (v := none) (fun _ => rfl)
  exact ⟨_, _, X20.returnOut hx Bd.returns (hb hby d3_11) hr, hrun, hended, _, _, rfl, (by rw [show (T20.setFrames fs).heap = h20 from e20]; exact ⟨rfl, N20, K20, f21, Fw20⟩), ⟨_, rfl⟩, hW, hsame.mono (by decide) (by decide)⟩
def Q_r9_41 (Z : State) (b5 : Addr) (b37 : Addr) (h0 : Heap) (n0 : Nat) (v : Option Value) (h : Heap) (L : List Loc) : Prop := (v = none ∧ Fr n0 L ∧ Keep h0 h [b37] ∧ Fld Z h b37 "java/util/Collections$UnmodifiableCollection" "c" "Ljava/util/Collection;" (.ref b5) ∧ Fld Z h b37 "java/util/Collections$UnmodifiableList" "list" "Ljava/util/List;" .null)
set_option maxRecDepth 65536 in
set_option maxHeartbeats 40000000 in
theorem r9_41 (l : Launch) (Z : State) (a0 : Array Value) (hw : ∀ d ∈ tables_1, d.before a0 Z = true) (ws : List Jvm.Cond) (h0 : Heap) (n0 : Nat) (Z0 : n0 ≤ h0.size) (b5 : Addr) (b37 : Addr) (u42_10 : Exa Z h0 b37 "java/util/Collections$UnmodifiableRandomAccessList") (u42_11 : Fld Z h0 b37 "java/util/Collections$UnmodifiableCollection" "c" "Ljava/util/Collection;" .null) (u42_12 : Fld Z h0 b37 "java/util/Collections$UnmodifiableList" "list" "Ljava/util/List;" .null) (g_b37 : n0 ≤ b37) :
    MetFree l (⟨"java/util/Collections$UnmodifiableCollection", "<init>", "(Ljava/util/Collection;)V"⟩ : MethodName) (head1 (Jvm.Cond.code (⟨"java/util/Collections$UnmodifiableCollection", "<init>", "(Ljava/util/Collection;)V"⟩ : MethodName) jdk_119_method_1_code 2 none :: ws) ({ frames := 1, cells := 0, slots := 0, locals := 12 } : Room)) (fun a U => a = #[(.ref b37), (.ref b5)] ∧ Z.Warmed39 U.vm ∧ U.heap = h0) (fun _ _ _ _ _ => True) (fun _ U o U' => ∃ v L, o = .returned v ∧ Q_r9_41 Z b5 b37 h0 n0 v U'.heap L ∧ FrameEnd U o U' L ({ frames := 1, cells := 0, slots := 0, locals := 12 } : Room).cells ({ frames := 1, cells := 0, slots := 0, locals := 12 } : Room).slots) := by
  refine MetFree.of_bodySF (plainFor_of_name pn3) hisR ?_
  intro p e s m args below meth c s₁ Bd hml0 hP hK
  obtain ⟨rfl, hZ, hh⟩ := hP
  have hx := Bd.exec
  have hby := Bd.bytes
  have hml : c.maxLocals = 2 := hml0
  have hown : s.vm.findClass "java/util/Collections$UnmodifiableCollection" = some m.cls := findClass_of_methodNamed Bd.named
  have hnm := (name_of_methodNamed Bd.named Bd.method).1
  have X0 : Stand p l e ({ frames := 1, cells := 0, slots := 0, locals := 12 } : Room) s m #[(.ref b37), (.ref b5)] below meth c s₁ [] 0 0 := Stand.of_body Bd
  have e0 : s₁.heap = h0 := by rw [← hh, Bd.state]; rfl
  have N0 := Fr.nil n0
  refine Goes.out (Goes.by (fun tz kz => castTop (ef9_RR m b37 b5) kz) ?_)
  show Goes p e below (s₁.setTop (mkF m 0 #[rv b37, rv b5] [])) _
  refine Goes.by (fun _ kz => XS.aloadN X0.here hx rfl (hb hby d9_0) rfl rfl kz) ?_
  obtain ⟨T44, X44, e44, st44⟩ := initO X0 hx hZ hown (hw _ (List.mem_of_getElem? (i := 73) rfl)) (hw _ (List.mem_of_getElem? (i := 7) rfl)) (hw _ (List.mem_of_getElem? (i := 8) rfl)) e0 (g := (mkF m 1 #[rv b37, rv b5] [(.ref b37)])) rfl (by rw [hml]; rfl) rfl (hb hby d9_1) (by decide) (W := 0) (by show 2 * 0 + _ ≤ _; exact Nat.le_of_eq rfl) (by decide)
  refine Goes.by st44 ?_
  refine Goes.by (fun _ kz => XS.aloadN X44.here hx rfl (hb hby d9_4) rfl rfl (XS.ifnonnullYes X44.here hx rfl (pc0 := 5) (pc' := 16) rfl (hb hby d9_5) rfl (by decide) (by decide) (XS.aloadN X44.here hx rfl (hb hby d9_16) rfl rfl kz))) ?_
  show Goes p e below (T44.setTop (mkF m 17 #[rv b37, rv b5] [(.ref b37)])) _
  refine Goes.by (fun _ kz => XS.aloadN X44.here hx rfl (hb hby d9_17) rfl rfl kz) ?_
  obtain ⟨T45, h45, X45, e45, W45, st45⟩ := putF X44 hx hZ hown (host := "") (Or.inl (hw _ (List.mem_of_getElem? (i := 74) rfl))) Via.refl e44 u42_11 u42_10 (Or.inr ⟨(hw _ (List.mem_of_getElem? (i := 75) rfl)), rfl, hnm⟩) (hw _ (List.mem_of_getElem? (i := 56) rfl)) (ty := (.object "java/util/Collection")) (by decide) rfl rfl (g := (mkF m 18 #[rv b37, rv b5] [(.ref b5), (.ref b37)])) rfl rfl (hb hby d9_18)
  have Fw45 := Fld.same W45 u42_11
  have K45 : Keep h0 h45 [b37] := Keep.wr (Keep.refl h0 [b37]) W45 (Or.inl (List.mem_of_getElem? (i := 0) rfl))
  have Z45 : n0 ≤ h45.size := Nat.le_trans Z0 (Keep.of_wr W45).1
  have N45 := Fr.snoc X45 N0 g_b37
  refine Goes.by st45 ?_
  show Goes p e below (T45.setTop (mkF m 21 #[rv b37, rv b5] [])) _
  have f46 := (Fld.other W45 u42_12 (Or.inr (slot_ne (Or.inr (hw _ (List.mem_of_getElem? (i := 77) rfl))) (Or.inr (hw _ (List.mem_of_getElem? (i := 75) rfl))) (by decide) (t := (.object "java/util/List")) (t' := (.object "java/util/Collection")) (by decide) (by decide))))
  obtain ⟨fs, hr, hrun, hended, hW, hsame⟩ := X45.leave (v := none) (fun _ => rfl)
  exact ⟨_, _, X45.returnOut hx Bd.returns (hb hby d9_21) hr, hrun, hended, _, _, rfl, (by rw [show (T45.setFrames fs).heap = h45 from e45]; exact ⟨rfl, N45, K45, Fw45, f46⟩), ⟨_, rfl⟩, hW, hsame.mono (by decide) (by decide)⟩
def Q_r8_39 (Z : State) (b5 : Addr) (b37 : Addr) (h0 : Heap) (n0 : Nat) (v : Option Value) (h : Heap) (L : List Loc) : Prop := (v = none ∧ Fr n0 L ∧ Keep h0 h [b37] ∧ Fld Z h b37 "java/util/Collections$UnmodifiableCollection" "c" "Ljava/util/Collection;" (.ref b5) ∧ Fld Z h b37 "java/util/Collections$UnmodifiableList" "list" "Ljava/util/List;" (.ref b5))
set_option maxRecDepth 65536 in
set_option maxHeartbeats 40000000 in
theorem r8_39 (l : Launch) (Z : State) (a0 : Array Value) (hw : ∀ d ∈ tables_1, d.before a0 Z = true) (ws : List Jvm.Cond) (h0 : Heap) (n0 : Nat) (Z0 : n0 ≤ h0.size) (b5 : Addr) (b37 : Addr) (u40_10 : Exa Z h0 b37 "java/util/Collections$UnmodifiableRandomAccessList") (u40_11 : Fld Z h0 b37 "java/util/Collections$UnmodifiableCollection" "c" "Ljava/util/Collection;" .null) (u40_12 : Fld Z h0 b37 "java/util/Collections$UnmodifiableList" "list" "Ljava/util/List;" .null) (g_b37 : n0 ≤ b37) :
    MetFree l (⟨"java/util/Collections$UnmodifiableList", "<init>", "(Ljava/util/List;)V"⟩ : MethodName) (head1 (Jvm.Cond.code (⟨"java/util/Collections$UnmodifiableList", "<init>", "(Ljava/util/List;)V"⟩ : MethodName) jdk_120_method_1_code 2 none :: ws) ({ frames := 2, cells := 0, slots := 0, locals := 25 } : Room)) (fun a U => a = #[(.ref b37), (.ref b5)] ∧ Z.Warmed39 U.vm ∧ U.heap = h0) (fun _ _ _ _ _ => True) (fun _ U o U' => ∃ v L, o = .returned v ∧ Q_r8_39 Z b5 b37 h0 n0 v U'.heap L ∧ FrameEnd U o U' L ({ frames := 2, cells := 0, slots := 0, locals := 25 } : Room).cells ({ frames := 2, cells := 0, slots := 0, locals := 25 } : Room).slots) := by
  refine MetFree.of_bodySF (plainFor_of_name pn4) hisR ?_
  intro p e s m args below meth c s₁ Bd hml0 hP hK
  obtain ⟨rfl, hZ, hh⟩ := hP
  have hx := Bd.exec
  have hby := Bd.bytes
  have hml : c.maxLocals = 2 := hml0
  have hown : s.vm.findClass "java/util/Collections$UnmodifiableList" = some m.cls := findClass_of_methodNamed Bd.named
  have hnm := (name_of_methodNamed Bd.named Bd.method).1
  have X0 : Stand p l e ({ frames := 2, cells := 0, slots := 0, locals := 25 } : Room) s m #[(.ref b37), (.ref b5)] below meth c s₁ [] 0 0 := Stand.of_body Bd
  have e0 : s₁.heap = h0 := by rw [← hh, Bd.state]; rfl
  have N0 := Fr.nil n0
  refine Goes.out (Goes.by (fun tz kz => castTop (ef8_RR m b37 b5) kz) ?_)
  show Goes p e below (s₁.setTop (mkF m 0 #[rv b37, rv b5] [])) _
  refine Goes.by (fun _ kz => XS.aloadN X0.here hx rfl (hb hby d8_0) rfl rfl (XS.aloadN X0.here hx rfl (hb hby d8_1) rfl rfl kz)) ?_
  obtain ⟨_, _, ⟨T47, L47, k47, n47⟩, -, X47, ⟨Lc47, hQ47, l47, y47, z47⟩, st47⟩ := X0.specialBack hx (y := (⟨"java/util/Collections$UnmodifiableCollection", "<init>", "(Ljava/util/Collection;)V"⟩ : MethodName)) rfl hown (mvT hZ (hw _ (List.mem_of_getElem? (i := 67) rfl))) (mvT hZ (hw _ (List.mem_of_getElem? (i := 68) rfl))) (mvT hZ (hw _ (List.mem_of_getElem? (i := 72) rfl))) (by decide) (backOf (W := 0) (r9_41 l Z a0 hw [] h0 n0 Z0 b5 b37 u40_10 u40_11 u40_12 g_b37) hZ (hw _ (List.mem_of_getElem? (i := 72) rfl)) (hw _ (List.mem_of_getElem? (i := 71) rfl)) (by decide) (by decide)) (g := (mkF m 2 #[rv b37, rv b5] [(.ref b5), (.ref b37)])) rfl (by rw [hml]; rfl) (Steps.refl _) (a := b37) (argsL := [(.ref b5)]) (rest := []) (lenOf pd1 rfl) rfl (by show 2 * 0 + _ ≤ _; exact Nat.le_of_eq rfl) (hb hby d8_2) (fun _ _ => ⟨rfl, e0, (by decide : 0 + 0 ≤ _), (by decide : 0 + 0 ≤ _)⟩)
  dsimp only [Pt.U, Pt.locs, Pt.cells, Pt.slots] at X47 l47 y47 z47 st47 hQ47
  subst l47 y47 z47
  obtain ⟨rfl, Nq47, Kq47, fq47_0, fq47_1⟩ := hQ47
  have K47 : Keep h0 T47.heap [b37] := Keep.trans (Keep.refl h0 [b37]) Kq47 (allS (Or.inl (List.mem_of_getElem? (i := 0) rfl)) all0)
  have Z47 : n0 ≤ T47.heap.size := Nat.le_trans Z0 Kq47.1
  have N47 := Fr.app N0 Nq47
  refine Goes.tr st47 ?_
  refine Goes.by (fun _ kz => XS.aloadN X47.here hx rfl (hb hby d8_5) rfl rfl (XS.aloadN X47.here hx rfl (hb hby d8_6) rfl rfl kz)) ?_
  have f48 := (u40_10.keep Kq47)
  obtain ⟨T49, h49, X49, e49, W49, st49⟩ := putF X47 hx hZ hown (host := "") (Or.inl (hw _ (List.mem_of_getElem? (i := 76) rfl))) Via.refl rfl fq47_1 f48 (Or.inr ⟨(hw _ (List.mem_of_getElem? (i := 77) rfl)), rfl, hnm⟩) (hw _ (List.mem_of_getElem? (i := 56) rfl)) (ty := (.object "java/util/List")) (by decide) rfl rfl (g := (mkF m 7 #[rv b37, rv b5] [(.ref b5), (.ref b37)])) rfl rfl (hb hby d8_7)
  have Fw49 := Fld.same W49 fq47_1
  have K49 : Keep h0 h49 [b37] := Keep.wr K47 W49 (Or.inl (List.mem_of_getElem? (i := 0) rfl))
  have Z49 : n0 ≤ h49.size := Nat.le_trans Z47 (Keep.of_wr W49).1
  have N49 := Fr.snoc X49 N47 g_b37
  refine Goes.by st49 ?_
  show Goes p e below (T49.setTop (mkF m 10 #[rv b37, rv b5] [])) _
  have f50 := (Fld.other W49 fq47_0 (Or.inr (slot_ne (Or.inr (hw _ (List.mem_of_getElem? (i := 75) rfl))) (Or.inr (hw _ (List.mem_of_getElem? (i := 77) rfl))) (by decide) (t := (.object "java/util/Collection")) (t' := (.object "java/util/List")) (by decide) (by decide))))
  obtain ⟨fs, hr, hrun, hended, hW, hsame⟩ := X49.leave (v := none) (fun _ => rfl)
  exact ⟨_, _, X49.returnOut hx Bd.returns (hb hby d8_10) hr, hrun, hended, _, _, rfl, (by rw [show (T49.setFrames fs).heap = h49 from e49]; exact ⟨rfl, N49, K49, f50, Fw49⟩), ⟨_, rfl⟩, hW, hsame.mono (by decide) (by decide)⟩
def Q_r7_37 (Z : State) (b5 : Addr) (b37 : Addr) (h0 : Heap) (n0 : Nat) (v : Option Value) (h : Heap) (L : List Loc) : Prop := (v = none ∧ Fr n0 L ∧ Keep h0 h [b37] ∧ Fld Z h b37 "java/util/Collections$UnmodifiableCollection" "c" "Ljava/util/Collection;" (.ref b5) ∧ Fld Z h b37 "java/util/Collections$UnmodifiableList" "list" "Ljava/util/List;" (.ref b5))
set_option maxRecDepth 65536 in
set_option maxHeartbeats 40000000 in
theorem r7_37 (l : Launch) (Z : State) (a0 : Array Value) (hw : ∀ d ∈ tables_1, d.before a0 Z = true) (ws : List Jvm.Cond) (h0 : Heap) (n0 : Nat) (Z0 : n0 ≤ h0.size) (b5 : Addr) (b37 : Addr) (u38_10 : Exa Z h0 b37 "java/util/Collections$UnmodifiableRandomAccessList") (u38_11 : Fld Z h0 b37 "java/util/Collections$UnmodifiableCollection" "c" "Ljava/util/Collection;" .null) (u38_12 : Fld Z h0 b37 "java/util/Collections$UnmodifiableList" "list" "Ljava/util/List;" .null) (g_b37 : n0 ≤ b37) :
    MetFree l (⟨"java/util/Collections$UnmodifiableRandomAccessList", "<init>", "(Ljava/util/List;)V"⟩ : MethodName) (head1 (Jvm.Cond.code (⟨"java/util/Collections$UnmodifiableRandomAccessList", "<init>", "(Ljava/util/List;)V"⟩ : MethodName) jdk_121_method_1_code 2 none :: ws) ({ frames := 3, cells := 0, slots := 0, locals := 38 } : Room)) (fun a U => a = #[(.ref b37), (.ref b5)] ∧ Z.Warmed39 U.vm ∧ U.heap = h0) (fun _ _ _ _ _ => True) (fun _ U o U' => ∃ v L, o = .returned v ∧ Q_r7_37 Z b5 b37 h0 n0 v U'.heap L ∧ FrameEnd U o U' L ({ frames := 3, cells := 0, slots := 0, locals := 38 } : Room).cells ({ frames := 3, cells := 0, slots := 0, locals := 38 } : Room).slots) := by
  refine MetFree.of_bodySF (plainFor_of_name pn5) hisR ?_
  intro p e s m args below meth c s₁ Bd hml0 hP hK
  obtain ⟨rfl, hZ, hh⟩ := hP
  have hx := Bd.exec
  have hby := Bd.bytes
  have hml : c.maxLocals = 2 := hml0
  have hown : s.vm.findClass "java/util/Collections$UnmodifiableRandomAccessList" = some m.cls := findClass_of_methodNamed Bd.named
  have hnm := (name_of_methodNamed Bd.named Bd.method).1
  have X0 : Stand p l e ({ frames := 3, cells := 0, slots := 0, locals := 38 } : Room) s m #[(.ref b37), (.ref b5)] below meth c s₁ [] 0 0 := Stand.of_body Bd
  have e0 : s₁.heap = h0 := by rw [← hh, Bd.state]; rfl
  have N0 := Fr.nil n0
  refine Goes.out (Goes.by (fun tz kz => castTop (ef7_RR m b37 b5) kz) ?_)
  show Goes p e below (s₁.setTop (mkF m 0 #[rv b37, rv b5] [])) _
  refine Goes.by (fun _ kz => XS.aloadN X0.here hx rfl (hb hby d7_0) rfl rfl (XS.aloadN X0.here hx rfl (hb hby d7_1) rfl rfl kz)) ?_
  obtain ⟨_, _, ⟨T51, L51, k51, n51⟩, -, X51, ⟨Lc51, hQ51, l51, y51, z51⟩, st51⟩ := X0.specialBack hx (y := (⟨"java/util/Collections$UnmodifiableList", "<init>", "(Ljava/util/List;)V"⟩ : MethodName)) rfl hown (mvT hZ (hw _ (List.mem_of_getElem? (i := 61) rfl))) (mvT hZ (hw _ (List.mem_of_getElem? (i := 62) rfl))) (mvT hZ (hw _ (List.mem_of_getElem? (i := 66) rfl))) (by decide) (backOf (W := 0) (r8_39 l Z a0 hw [] h0 n0 Z0 b5 b37 u38_10 u38_11 u38_12 g_b37) hZ (hw _ (List.mem_of_getElem? (i := 66) rfl)) (hw _ (List.mem_of_getElem? (i := 65) rfl)) (by decide) (by decide)) (g := (mkF m 2 #[rv b37, rv b5] [(.ref b5), (.ref b37)])) rfl (by rw [hml]; rfl) (Steps.refl _) (a := b37) (argsL := [(.ref b5)]) (rest := []) (lenOf pd2 rfl) rfl (by show 2 * 0 + _ ≤ _; exact Nat.le_of_eq rfl) (hb hby d7_2) (fun _ _ => ⟨rfl, e0, (by decide : 0 + 0 ≤ _), (by decide : 0 + 0 ≤ _)⟩)
  dsimp only [Pt.U, Pt.locs, Pt.cells, Pt.slots] at X51 l51 y51 z51 st51 hQ51
  subst l51 y51 z51
  obtain ⟨rfl, Nq51, Kq51, fq51_0, fq51_1⟩ := hQ51
  have K51 : Keep h0 T51.heap [b37] := Keep.trans (Keep.refl h0 [b37]) Kq51 (allS (Or.inl (List.mem_of_getElem? (i := 0) rfl)) all0)
  have Z51 : n0 ≤ T51.heap.size := Nat.le_trans Z0 Kq51.1
  have N51 := Fr.app N0 Nq51
  refine Goes.tr st51 ?_
  show Goes p e below (T51.setTop (mkF m 5 #[rv b37, rv b5] [])) _
  obtain ⟨fs, hr, hrun, hended, hW, hsame⟩ := X51.leave (v := none) (fun _ => rfl)
  exact ⟨_, _, X51.returnOut hx Bd.returns (hb hby d7_5) hr, hrun, hended, _, _, rfl, ⟨rfl, N51, K51, fq51_0, fq51_1⟩, ⟨_, rfl⟩, hW, hsame.mono (by decide) (by decide)⟩
def Q_r6_27 (Z : State) (mA : Addr) (mL : Addr) (mR : Addr) (b1 : Addr) (b5 : Addr) (h0 : Heap) (n0 : Nat) (v : Option Value) (h : Heap) (L : List Loc) : Prop := (v = some (.ref b5) ∧ Fr n0 L ∧ h = h0 ∧ mA = mL) ∨ (v = some (.ref b5) ∧ Fr n0 L ∧ h = h0 ∧ ¬ (mA = mL) ∧ mA = mR) ∨ (∃ (b37 : Addr), v = some (.ref b37) ∧ Fr n0 L ∧ Keep h0 h [] ∧ h0.size ≤ b37 ∧ Exa Z h b37 "java/util/Collections$UnmodifiableRandomAccessList" ∧ Fld Z h b37 "java/util/Collections$UnmodifiableCollection" "c" "Ljava/util/Collection;" (.ref b5) ∧ Fld Z h b37 "java/util/Collections$UnmodifiableList" "list" "Ljava/util/List;" (.ref b5) ∧ ¬ (mA = mL) ∧ ¬ (mA = mR))
set_option maxRecDepth 65536 in
set_option maxHeartbeats 40000000 in
theorem r6_27 (l : Launch) (Z : State) (a0 : Array Value) (hw : ∀ d ∈ tables_1, d.before a0 Z = true) (ws : List Jvm.Cond) (h0 : Heap) (n0 : Nat) (Z0 : n0 ≤ h0.size) (mA : Addr) (mL : Addr) (mR : Addr) (b1 : Addr) (b5 : Addr) (u28_2 : Exa Z h0 b1 "com/example/entail/entail/model/EntrySettings") (u28_7 : Exa Z h0 b5 "java/util/ArrayList") (MA : OwnMir Z "java/util/ArrayList" mA) (ML : OwnMir Z "java/util/Collections$UnmodifiableList" mL) (MR : OwnMir Z "java/util/Collections$UnmodifiableRandomAccessList" mR) :
    MetFree l (⟨"java/util/Collections", "unmodifiableList", "(Ljava/util/List;)Ljava/util/List;"⟩ : MethodName) (head1 (Jvm.Cond.code (⟨"java/util/Collections", "unmodifiableList", "(Ljava/util/List;)Ljava/util/List;"⟩ : MethodName) jdk_79_method_35_code 1 (some (.object "java/util/List")) :: ws) ({ frames := 4, cells := 1, slots := 2, locals := 64 } : Room)) (fun a U => a = #[(.ref b5)] ∧ Z.Warmed39 U.vm ∧ U.heap = h0) (fun _ _ _ _ _ => True) (fun _ U o U' => ∃ v L, o = .returned v ∧ Q_r6_27 Z mA mL mR b1 b5 h0 n0 v U'.heap L ∧ FrameEnd U o U' L ({ frames := 4, cells := 1, slots := 2, locals := 64 } : Room).cells ({ frames := 4, cells := 1, slots := 2, locals := 64 } : Room).slots) := by
  refine MetFree.of_bodySF (plainFor_of_name pn6) hisR ?_
  intro p e s m args below meth c s₁ Bd hml0 hP hK
  obtain ⟨rfl, hZ, hh⟩ := hP
  have hx := Bd.exec
  have hby := Bd.bytes
  have hml : c.maxLocals = 1 := hml0
  have hown : s.vm.findClass "java/util/Collections" = some m.cls := findClass_of_methodNamed Bd.named
  have hnm := (name_of_methodNamed Bd.named Bd.method).1
  have X0 : Stand p l e ({ frames := 4, cells := 1, slots := 2, locals := 64 } : Room) s m #[(.ref b5)] below meth c s₁ [] 0 0 := Stand.of_body Bd
  have e0 : s₁.heap = h0 := by rw [← hh, Bd.state]; rfl
  have N0 := Fr.nil n0
  refine Goes.out (Goes.by (fun tz kz => castTop (ef6_R m b5) kz) ?_)
  show Goes p e below (s₁.setTop (mkF m 0 #[rv b5] [])) _
  refine Goes.by (fun _ kz => XS.aloadN X0.here hx rfl (hb hby d6_0) rfl rfl kz) ?_
  obtain ⟨cB30, kB30, qa30, qb30, qc30, qd30⟩ := own_mirOf hZ e0 u28_7 MA
  obtain ⟨vm30, X30, st30⟩ := X0.getClassOfI hx (xi := (⟨"java/util/List", "getClass", "()Ljava/lang/Class;"⟩ : MethodName)) hown (mvT hZ (hw _ (List.mem_of_getElem? (i := 39) rfl))) (mvT hZ (hw _ (List.mem_of_getElem? (i := 40) rfl))) (Jvm.Free.ULB.iface_rides hZ.alike (hw _ (List.mem_of_getElem? (i := 41) rfl))) (mvT hZ (hw _ (List.mem_of_getElem? (i := 42) rfl))) (mvT hZ (hw _ (List.mem_of_getElem? (i := 43) rfl))) (mvT hZ (hw _ (List.mem_of_getElem? (i := 44) rfl))) (mvT hZ (hw _ (List.mem_of_getElem? (i := 45) rfl))) (mvT hZ (hw _ (List.mem_of_getElem? (i := 46) rfl))) (mvT hZ (hw _ (List.mem_of_getElem? (i := 47) rfl))) (by decide) (by decide) rfl rfl qa30 qb30 qc30 qd30 (g := (mkF m 1 #[rv b5] [(.ref b5)])) rfl (by rw [hml]; rfl) rfl (hb hby d6_1) (by decide) (by show 2 * 0 + 0 + (nativeFrameWords "java/lang/Object" "getClass" 1 + 11) ≤ _; decide)
  have e30 : (s₁.setVm vm30).heap = h0 := e0
  refine Goes.by st30 ?_
  obtain ⟨vm31, X31, st31⟩ := X30.ldcMirror hx hown (mvT hZ (hw _ (List.mem_of_getElem? (i := 49) rfl))) (own_mir hZ ML) (g := (mkF m 6 #[rv b5] [(.ref mA)])) rfl (hb hby d6_6)
  have e31 : ((s₁.setVm vm30).setVm vm31).heap = h0 := e30
  refine Goes.by st31 ?_
  show Goes p e below (((s₁.setVm vm30).setVm vm31).setTop (mkF m 8 #[rv b5] [(.ref mL), (.ref mA)])) _
  by_cases hc32 : mA = mL
  · refine Goes.by (fun _ kz => Jvm.RoadKit.acmp (g := (mkF m 8 #[rv b5] [(.ref mL), (.ref mA)])) X31 hx rfl rfl rfl (pc0 := 8) (pc' := 22) (same := true) rfl (hb hby d6_8) rfl (decide_eq_true (congrArg Value.ref hc32)) (by decide) (by decide) (XS.aloadN X31.here hx rfl (hb hby d6_22) rfl rfl kz)) ?_
    show Goes p e below (((s₁.setVm vm30).setVm vm31).setTop (mkF m 23 #[rv b5] [(.ref b5)])) _
    obtain ⟨fs, hr, hrun, hended, hW, hsame⟩ := X31.leave (v := some (.ref b5)) (fun h => by rw [Bd.returns] at h; cases h)
    exact ⟨_, _, retOut X31 hx (t := (.object "java/util/List")) Bd.returns rfl (Or.inr (Or.inr (Or.inr (Or.inr ⟨rfl, rfl, rfl⟩)))) (hb hby d6_23) hr, hrun, hended, _, _, rfl, (Or.inl ⟨rfl, N0, e31, hc32⟩), ⟨_, rfl⟩, hW, hsame.mono (by decide) (by decide)⟩
  · refine Goes.by (fun _ kz => Jvm.RoadKit.acmp (g := (mkF m 8 #[rv b5] [(.ref mL), (.ref mA)])) X31 hx rfl rfl rfl (pc0 := 8) (pc' := 11) (same := false) rfl (hb hby d6_8) rfl (decide_eq_false fun q => hc32 (Value.ref.inj q)) (by decide) (by decide) (XS.aloadN X31.here hx rfl (hb hby d6_11) rfl rfl kz)) ?_
    obtain ⟨cB33, kB33, qa33, qb33, qc33, qd33⟩ := own_mirOf hZ e31 u28_7 MA
    obtain ⟨vm33, X33, st33⟩ := X31.getClassOfI hx (xi := (⟨"java/util/List", "getClass", "()Ljava/lang/Class;"⟩ : MethodName)) hown (mvT hZ (hw _ (List.mem_of_getElem? (i := 51) rfl))) (mvT hZ (hw _ (List.mem_of_getElem? (i := 40) rfl))) (Jvm.Free.ULB.iface_rides hZ.alike (hw _ (List.mem_of_getElem? (i := 41) rfl))) (mvT hZ (hw _ (List.mem_of_getElem? (i := 42) rfl))) (mvT hZ (hw _ (List.mem_of_getElem? (i := 43) rfl))) (mvT hZ (hw _ (List.mem_of_getElem? (i := 44) rfl))) (mvT hZ (hw _ (List.mem_of_getElem? (i := 45) rfl))) (mvT hZ (hw _ (List.mem_of_getElem? (i := 46) rfl))) (mvT hZ (hw _ (List.mem_of_getElem? (i := 47) rfl))) (by decide) (by decide) rfl rfl qa33 qb33 qc33 qd33 (g := (mkF m 12 #[rv b5] [(.ref b5)])) rfl (by rw [hml]; rfl) rfl (hb hby d6_12) (by decide) (by show 2 * 0 + 0 + (nativeFrameWords "java/lang/Object" "getClass" 1 + 11) ≤ _; decide)
    have e33 : (((s₁.setVm vm30).setVm vm31).setVm vm33).heap = h0 := e31
    refine Goes.by st33 ?_
    obtain ⟨vm34, X34, st34⟩ := X33.ldcMirror hx hown (mvT hZ (hw _ (List.mem_of_getElem? (i := 52) rfl))) (own_mir hZ MR) (g := (mkF m 17 #[rv b5] [(.ref mA)])) rfl (hb hby d6_17)
    have e34 : ((((s₁.setVm vm30).setVm vm31).setVm vm33).setVm vm34).heap = h0 := e33
    refine Goes.by st34 ?_
    show Goes p e below (((((s₁.setVm vm30).setVm vm31).setVm vm33).setVm vm34).setTop (mkF m 19 #[rv b5] [(.ref mR), (.ref mA)])) _
    by_cases hc35 : mA = mR
    · refine Goes.by (fun _ kz => Jvm.RoadKit.acmp (g := (mkF m 19 #[rv b5] [(.ref mR), (.ref mA)])) X34 hx rfl rfl rfl (pc0 := 19) (pc' := 22) (same := true) rfl (hb hby d6_19) rfl (decide_eq_true (congrArg Value.ref hc35)) (by decide) (by decide) (XS.aloadN X34.here hx rfl (hb hby d6_22) rfl rfl kz)) ?_
      show Goes p e below (((((s₁.setVm vm30).setVm vm31).setVm vm33).setVm vm34).setTop (mkF m 23 #[rv b5] [(.ref b5)])) _
      obtain ⟨fs, hr, hrun, hended, hW, hsame⟩ := X34.leave (v := some (.ref b5)) (fun h => by rw [Bd.returns] at h; cases h)
      exact ⟨_, _, retOut X34 hx (t := (.object "java/util/List")) Bd.returns rfl (Or.inr (Or.inr (Or.inr (Or.inr ⟨rfl, rfl, rfl⟩)))) (hb hby d6_23) hr, hrun, hended, _, _, rfl, (Or.inr (Or.inl ⟨rfl, N0, e34, hc32, hc35⟩)), ⟨_, rfl⟩, hW, hsame.mono (by decide) (by decide)⟩
    · refine Goes.by (fun _ kz => Jvm.RoadKit.acmp (g := (mkF m 19 #[rv b5] [(.ref mR), (.ref mA)])) X34 hx rfl rfl rfl (pc0 := 19) (pc' := 24) (same := false) rfl (hb hby d6_19) rfl (decide_eq_false fun q => hc35 (Value.ref.inj q)) (by decide) (by decide) (XS.aloadN X34.here hx rfl (hb hby d6_24) rfl rfl kz)) ?_
      obtain ⟨T36, X36, e36, st36⟩ := instY X34 hx hZ hown (hw _ (List.mem_of_getElem? (i := 54) rfl)) e34 (Ins.of_exa u28_7 (hw _ (List.mem_of_getElem? (i := 55) rfl))) (g := (mkF m 25 #[rv b5] [(.ref b5)])) rfl rfl (hb hby d6_25)
      refine Goes.by st36 ?_
      refine Goes.by (fun _ kz => XS.ifNo X36.here hx rfl (hb hby d6_28) rfl ((if0 _ _).trans (feq (by decide : ¬ ((1 : Int32) = (0 : Int32)))).1) kz) ?_
      obtain ⟨T37, h37, X37, e37, E37, A37, D37, -, st37⟩ := newO X36 hx hZ hown (hw _ (List.mem_of_getElem? (i := 52) rfl)) (hw _ (List.mem_of_getElem? (i := 56) rfl)) (hw _ (List.mem_of_getElem? (i := 57) rfl)) e36 (g := (mkF m 31 #[rv b5] [])) rfl (hb hby d6_31) (by decide) (by decide)
      obtain ⟨b37, g37⟩ : ∃ z, z = h0.size := ⟨_, rfl⟩
      rw [← g37] at A37 D37 st37
      have ne37_b1 : b1 ≠ b37 := Nat.ne_of_lt (Nat.lt_of_lt_of_le u28_2.lt (Nat.le_of_eq g37.symm))
      have ne37_b5 : b5 ≠ b37 := Nat.ne_of_lt (Nat.lt_of_lt_of_le u28_7.lt (Nat.le_of_eq g37.symm))
      have g_b37 : n0 ≤ b37 := Nat.le_trans Z0 (Nat.le_of_eq g37.symm)
      have sz_b37 : h0.size ≤ b37 := Nat.le_of_eq g37.symm
      have F37_c : Fld Z h37 b37 "java/util/Collections$UnmodifiableCollection" "c" "Ljava/util/Collection;" .null := D37 (Or.inr (hw _ (List.mem_of_getElem? (i := 75) rfl))) (ty := (.object "java/util/Collection")) (by decide)
      have F37_list : Fld Z h37 b37 "java/util/Collections$UnmodifiableList" "list" "Ljava/util/List;" .null := D37 (Or.inr (hw _ (List.mem_of_getElem? (i := 77) rfl))) (ty := (.object "java/util/List")) (by decide)
      have K37 : Keep h0 h37 [] := Keep.ext (Keep.refl h0 []) E37
      have Z37 : n0 ≤ h37.size := Nat.le_trans Z0 E37.1
      refine Goes.by st37 ?_
      refine Goes.by (fun _ kz => XS.dup X37.here hx rfl (hb hby d6_34) rfl rfl (XS.aloadN X37.here hx rfl (hb hby d6_35) rfl rfl kz)) ?_
      obtain ⟨_, _, ⟨T52, L52, k52, n52⟩, -, X52, ⟨Lc52, hQ52, l52, y52, z52⟩, st52⟩ := X37.specialBack hx (y := (⟨"java/util/Collections$UnmodifiableRandomAccessList", "<init>", "(Ljava/util/List;)V"⟩ : MethodName)) rfl hown (mvT hZ (hw _ (List.mem_of_getElem? (i := 58) rfl))) (mvT hZ (hw _ (List.mem_of_getElem? (i := 59) rfl))) (mvT hZ (hw _ (List.mem_of_getElem? (i := 60) rfl))) (by decide) (backOf (W := 1) (r7_37 l Z a0 hw [] h37 n0 Z37 b5 b37 A37 F37_c F37_list g_b37) hZ (hw _ (List.mem_of_getElem? (i := 60) rfl)) (hw _ (List.mem_of_getElem? (i := 57) rfl)) (by decide) (by decide)) (g := (mkF m 36 #[rv b5] [(.ref b5), (.ref b37), (.ref b37)])) rfl (by rw [hml]; rfl) (Steps.refl _) (a := b37) (argsL := [(.ref b5)]) (rest := [(.ref b37)]) (lenOf pd2 rfl) rfl (by show 2 * 0 + _ ≤ _; exact Nat.le_of_eq rfl) (hb hby d6_36) (fun _ _ => ⟨rfl, e37, (by decide : 1 + 0 ≤ _), (by decide : 2 + 0 ≤ _)⟩)
      dsimp only [Pt.U, Pt.locs, Pt.cells, Pt.slots] at X52 l52 y52 z52 st52 hQ52
      subst l52 y52 z52
      obtain ⟨rfl, Nq52, Kq52, fq52_0, fq52_1⟩ := hQ52
      have K52 : Keep h0 T52.heap [] := Keep.trans K37 Kq52 (allS (Or.inr sz_b37) all0)
      have Z52 : n0 ≤ T52.heap.size := Nat.le_trans Z37 Kq52.1
      have N52 := Fr.app N0 Nq52
      refine Goes.tr st52 ?_
      refine Goes.by (fun _ kz => XS.goto X52.here hx rfl (pc0 := 39) (pc' := 50) rfl (hb hby d6_39) (by decide) (by decide) kz) ?_
      show Goes p e below (T52.setTop (mkF m 50 #[rv b5] [(.ref b37)])) _
      have f53 := (A37.keep Kq52)
      obtain ⟨fs, hr, hrun, hended, hW, hsame⟩ := X52.leave (v := some (.ref b37)) (fun h => by rw [Bd.returns] at h; cases h)
      exact ⟨_, _, retOut X52 hx (t := (.object "java/util/List")) Bd.returns rfl (Or.inr (Or.inr (Or.inr (Or.inr ⟨rfl, rfl, rfl⟩)))) (hb hby d6_50) hr, hrun, hended, _, _, rfl, (Or.inr (Or.inr ⟨b37, rfl, N52, K52, sz_b37, f53, fq52_0, fq52_1, hc32, hc35⟩)), ⟨_, rfl⟩, hW, hsame.mono (by decide) (by decide)⟩
def Q_r10_58 (Z : State) (q2 : Addr) (h0 : Heap) (n0 : Nat) (v : Option Value) (h : Heap) (L : List Loc) : Prop := (v = some (.ref q2) ∧ Fr n0 L ∧ h = h0)
set_option maxRecDepth 65536 in
set_option maxHeartbeats 40000000 in
theorem r10_58 (l : Launch) (Z : State) (a0 : Array Value) (hw : ∀ d ∈ tables_1, d.before a0 Z = true) (ws : List Jvm.Cond) (h0 : Heap) (n0 : Nat) (Z0 : n0 ≤ h0.size) (q2 : Addr) (u59_1 : Sta Z h0 "java/util/ImmutableCollections" "EMPTY_SET" "Ljava/util/ImmutableCollections$SetN;" (.ref q2))  :
    MetFree l (⟨"java/util/Set", "of", "()Ljava/util/Set;"⟩ : MethodName) (head1 (Jvm.Cond.code (⟨"java/util/Set", "of", "()Ljava/util/Set;"⟩ : MethodName) jdk_96_method_17_code 0 (some (.object "java/util/Set")) :: ws) ({ frames := 0, cells := 0, slots := 0, locals := 0 } : Room)) (fun a U => a = #[] ∧ Z.Warmed39 U.vm ∧ U.heap = h0) (fun _ _ _ _ _ => True) (fun _ U o U' => ∃ v L, o = .returned v ∧ Q_r10_58 Z q2 h0 n0 v U'.heap L ∧ FrameEnd U o U' L ({ frames := 0, cells := 0, slots := 0, locals := 0 } : Room).cells ({ frames := 0, cells := 0, slots := 0, locals := 0 } : Room).slots) := by
  refine MetFree.of_bodySF (plainFor_of_name pn7) hisR ?_
  intro p e s m args below meth c s₁ Bd hml0 hP hK
  obtain ⟨rfl, hZ, hh⟩ := hP
  have hx := Bd.exec
  have hby := Bd.bytes
  have hml : c.maxLocals = 0 := hml0
  have hown : s.vm.findClass "java/util/Set" = some m.cls := findClass_of_methodNamed Bd.named
  have hnm := (name_of_methodNamed Bd.named Bd.method).1
  have X0 : Stand p l e ({ frames := 0, cells := 0, slots := 0, locals := 0 } : Room) s m #[] below meth c s₁ [] 0 0 := Stand.of_body Bd
  have e0 : s₁.heap = h0 := by rw [← hh, Bd.state]; rfl
  have N0 := Fr.nil n0
  refine Goes.out (Goes.by (fun tz kz => castTop (ef10_ m ) kz) ?_)
  obtain ⟨T61, X61, e61, st61⟩ := getS2 X0 hx hZ hown (host := "") (Or.inl (hw _ (List.mem_of_getElem? (i := 84) rfl))) Via.refl e0 u59_1 (g := (mkF m 0 #[] [])) rfl (hb hby d10_0)
  refine Goes.by st61 ?_
  show Goes p e below (T61.setTop (mkF m 3 #[] [(.ref q2)])) _
  obtain ⟨fs, hr, hrun, hended, hW, hsame⟩ := X61.leave (v := some (.ref q2)) (fun h => by rw [Bd.returns] at h; cases h)
  exact ⟨_, _, retOut X61 hx (t := (.object "java/util/Set")) Bd.returns rfl (Or.inr (Or.inr (Or.inr (Or.inr ⟨rfl, rfl, rfl⟩)))) (hb hby d10_3) hr, hrun, hended, _, _, rfl, ⟨rfl, N0, e61⟩, ⟨_, rfl⟩, hW, hsame.mono (by decide) (by decide)⟩
def Q_r1_1 (Z : State) (mA : Addr) (mL : Addr) (mR : Addr) (q1 : Addr) (q2 : Addr) (b1 : Addr) (h0 : Heap) (n0 : Nat) (v : Option Value) (h : Heap) (L : List Loc) : Prop := (∃ (b5 : Addr), v = none ∧ Fr n0 L ∧ Keep h0 h [b1] ∧ h0.size ≤ b5 ∧ Fld Z h b1 "com/example/entail/entail/model/EntrySettings" "rules" "Ljava/util/List;" (.ref b5) ∧ Fld Z h b1 "com/example/entail/entail/model/EntrySettings" "rulesView" "Ljava/util/List;" (.ref b5) ∧ Fld Z h b1 "com/example/entail/entail/model/EntrySettings" "blockedTrusteesView" "Ljava/util/Set;" (.ref q2) ∧ Fld Z h b1 "com/example/entail/entail/model/EntrySettings" "blocks" "Z" (.int 0) ∧ Exa Z h b5 "java/util/ArrayList" ∧ Fld Z h b5 "java/util/AbstractList" "modCount" "I" (.int 0) ∧ Fld Z h b5 "java/util/ArrayList" "elementData" "[Ljava/lang/Object;" (.ref q1) ∧ mA = mL) ∨ (∃ (b5 : Addr), v = none ∧ Fr n0 L ∧ Keep h0 h [b1] ∧ h0.size ≤ b5 ∧ Fld Z h b1 "com/example/entail/entail/model/EntrySettings" "rules" "Ljava/util/List;" (.ref b5) ∧ Fld Z h b1 "com/example/entail/entail/model/EntrySettings" "rulesView" "Ljava/util/List;" (.ref b5) ∧ Fld Z h b1 "com/example/entail/entail/model/EntrySettings" "blockedTrusteesView" "Ljava/util/Set;" (.ref q2) ∧ Fld Z h b1 "com/example/entail/entail/model/EntrySettings" "blocks" "Z" (.int 0) ∧ Exa Z h b5 "java/util/ArrayList" ∧ Fld Z h b5 "java/util/AbstractList" "modCount" "I" (.int 0) ∧ Fld Z h b5 "java/util/ArrayList" "elementData" "[Ljava/lang/Object;" (.ref q1) ∧ ¬ (mA = mL) ∧ mA = mR) ∨ (∃ (b5 : Addr) (b37_56 : Addr), v = none ∧ Fr n0 L ∧ Keep h0 h [b1] ∧ h0.size ≤ b5 ∧ h0.size ≤ b37_56 ∧ Fld Z h b1 "com/example/entail/entail/model/EntrySettings" "rules" "Ljava/util/List;" (.ref b5) ∧ Fld Z h b1 "com/example/entail/entail/model/EntrySettings" "rulesView" "Ljava/util/List;" (.ref b37_56) ∧ Fld Z h b1 "com/example/entail/entail/model/EntrySettings" "blockedTrusteesView" "Ljava/util/Set;" (.ref q2) ∧ Fld Z h b1 "com/example/entail/entail/model/EntrySettings" "blocks" "Z" (.int 0) ∧ Exa Z h b5 "java/util/ArrayList" ∧ Fld Z h b5 "java/util/AbstractList" "modCount" "I" (.int 0) ∧ Fld Z h b5 "java/util/ArrayList" "elementData" "[Ljava/lang/Object;" (.ref q1) ∧ Exa Z h b37_56 "java/util/Collections$UnmodifiableRandomAccessList" ∧ Fld Z h b37_56 "java/util/Collections$UnmodifiableCollection" "c" "Ljava/util/Collection;" (.ref b5) ∧ Fld Z h b37_56 "java/util/Collections$UnmodifiableList" "list" "Ljava/util/List;" (.ref b5) ∧ ¬ (mA = mL) ∧ ¬ (mA = mR))
set_option maxRecDepth 65536 in
set_option maxHeartbeats 40000000 in
theorem r1_1 (l : Launch) (Z : State) (a0 : Array Value) (hw : ∀ d ∈ tables_1, d.before a0 Z = true) (ws : List Jvm.Cond) (h0 : Heap) (n0 : Nat) (Z0 : n0 ≤ h0.size) (mA : Addr) (mL : Addr) (mR : Addr) (q1 : Addr) (q2 : Addr) (b1 : Addr) (u2_0 : Sta Z h0 "java/util/ArrayList" "DEFAULTCAPACITY_EMPTY_ELEMENTDATA" "[Ljava/lang/Object;" (.ref q1)) (u2_1 : Sta Z h0 "java/util/ImmutableCollections" "EMPTY_SET" "Ljava/util/ImmutableCollections$SetN;" (.ref q2)) (u2_2 : Exa Z h0 b1 "com/example/entail/entail/model/EntrySettings") (u2_3 : Fld Z h0 b1 "com/example/entail/entail/model/EntrySettings" "rules" "Ljava/util/List;" .null) (u2_4 : Fld Z h0 b1 "com/example/entail/entail/model/EntrySettings" "rulesView" "Ljava/util/List;" .null) (u2_5 : Fld Z h0 b1 "com/example/entail/entail/model/EntrySettings" "blockedTrusteesView" "Ljava/util/Set;" .null) (u2_6 : Fld Z h0 b1 "com/example/entail/entail/model/EntrySettings" "blocks" "Z" (.int 0)) (MA : OwnMir Z "java/util/ArrayList" mA) (ML : OwnMir Z "java/util/Collections$UnmodifiableList" mL) (MR : OwnMir Z "java/util/Collections$UnmodifiableRandomAccessList" mR) (g_b1 : n0 ≤ b1) :
    MetFree l (⟨"com/example/entail/entail/model/EntrySettings", "<init>", "()V"⟩ : MethodName) (head1 (Jvm.Cond.code (⟨"com/example/entail/entail/model/EntrySettings", "<init>", "()V"⟩ : MethodName) prog_7_method_1_code 1 none :: ws) ({ frames := 5, cells := 2, slots := 5, locals := 77 } : Room)) (fun a U => a = #[(.ref b1)] ∧ Z.Warmed39 U.vm ∧ U.heap = h0) (fun _ _ _ _ _ => True) (fun _ U o U' => ∃ v L, o = .returned v ∧ Q_r1_1 Z mA mL mR q1 q2 b1 h0 n0 v U'.heap L ∧ FrameEnd U o U' L ({ frames := 5, cells := 2, slots := 5, locals := 77 } : Room).cells ({ frames := 5, cells := 2, slots := 5, locals := 77 } : Room).slots) := by
  refine MetFree.of_bodySF (plainFor_of_name pn8) hisR ?_
  intro p e s m args below meth c s₁ Bd hml0 hP hK
  obtain ⟨rfl, hZ, hh⟩ := hP
  have hx := Bd.exec
  have hby := Bd.bytes
  have hml : c.maxLocals = 1 := hml0
  have hown : s.vm.findClass "com/example/entail/entail/model/EntrySettings" = some m.cls := findClass_of_methodNamed Bd.named
  have hnm := (name_of_methodNamed Bd.named Bd.method).1
  have X0 : Stand p l e ({ frames := 5, cells := 2, slots := 5, locals := 77 } : Room) s m #[(.ref b1)] below meth c s₁ [] 0 0 := Stand.of_body Bd
  have e0 : s₁.heap = h0 := by rw [← hh, Bd.state]; rfl
  have N0 := Fr.nil n0
  refine Goes.out (Goes.by (fun tz kz => castTop (ef1_R m b1) kz) ?_)
  show Goes p e below (s₁.setTop (mkF m 0 #[rv b1] [])) _
  refine Goes.by (fun _ kz => XS.aloadN X0.here hx rfl (hb hby d1_0) rfl rfl kz) ?_
  obtain ⟨T4, X4, e4, st4⟩ := initO X0 hx hZ hown (hw _ (List.mem_of_getElem? (i := 6) rfl)) (hw _ (List.mem_of_getElem? (i := 7) rfl)) (hw _ (List.mem_of_getElem? (i := 8) rfl)) e0 (g := (mkF m 1 #[rv b1] [(.ref b1)])) rfl (by rw [hml]; rfl) rfl (hb hby d1_1) (by decide) (W := 0) (by show 2 * 0 + _ ≤ _; exact Nat.le_of_eq rfl) (by decide)
  refine Goes.by st4 ?_
  refine Goes.by (fun _ kz => XS.aloadN X4.here hx rfl (hb hby d1_4) rfl rfl kz) ?_
  obtain ⟨T5, h5, X5, e5, E5, A5, D5, -, st5⟩ := newO X4 hx hZ hown (hw _ (List.mem_of_getElem? (i := 9) rfl)) (hw _ (List.mem_of_getElem? (i := 10) rfl)) (hw _ (List.mem_of_getElem? (i := 11) rfl)) e4 (g := (mkF m 5 #[rv b1] [(.ref b1)])) rfl (hb hby d1_5) (by decide) (by decide)
  obtain ⟨b5, g5⟩ : ∃ z, z = h0.size := ⟨_, rfl⟩
  rw [← g5] at A5 D5 st5
  have ne5_b1 : b1 ≠ b5 := Nat.ne_of_lt (Nat.lt_of_lt_of_le u2_2.lt (Nat.le_of_eq g5.symm))
  have g_b5 : n0 ≤ b5 := Nat.le_trans Z0 (Nat.le_of_eq g5.symm)
  have sz_b5 : h0.size ≤ b5 := Nat.le_of_eq g5.symm
  have F5_modCount : Fld Z h5 b5 "java/util/AbstractList" "modCount" "I" (.int 0) := D5 (Or.inl (hw _ (List.mem_of_getElem? (i := 29) rfl))) (ty := .int) (by decide)
  have F5_elementData : Fld Z h5 b5 "java/util/ArrayList" "elementData" "[Ljava/lang/Object;" .null := D5 (Or.inl (hw _ (List.mem_of_getElem? (i := 32) rfl))) (ty := (.array (.object "java/lang/Object"))) (by decide)
  have K5 : Keep h0 h5 [b1] := Keep.ext (Keep.refl h0 [b1]) E5
  have Z5 : n0 ≤ h5.size := Nat.le_trans Z0 E5.1
  refine Goes.by st5 ?_
  refine Goes.by (fun _ kz => XS.dup X5.here hx rfl (hb hby d1_8) rfl rfl kz) ?_
  have f22 := (u2_0.ext E5)
  obtain ⟨_, _, ⟨T23, L23, k23, n23⟩, -, X23, ⟨Lc23, hQ23, l23, y23, z23⟩, st23⟩ := X5.specialBack hx (y := (⟨"java/util/ArrayList", "<init>", "()V"⟩ : MethodName)) rfl hown (mvT hZ (hw _ (List.mem_of_getElem? (i := 12) rfl))) (mvT hZ (hw _ (List.mem_of_getElem? (i := 13) rfl))) (mvT hZ (hw _ (List.mem_of_getElem? (i := 14) rfl))) (by decide) (backOf (W := 2) (r3_5 l Z a0 hw [] h5 n0 Z5 q1 b5 f22 A5 F5_modCount F5_elementData g_b5) hZ (hw _ (List.mem_of_getElem? (i := 14) rfl)) (hw _ (List.mem_of_getElem? (i := 11) rfl)) (by decide) (by decide)) (g := (mkF m 9 #[rv b1] [(.ref b5), (.ref b5), (.ref b1)])) rfl (by rw [hml]; rfl) (Steps.refl _) (a := b5) (argsL := []) (rest := [(.ref b5), (.ref b1)]) (lenOf pd0 rfl) rfl (by show 2 * 0 + _ ≤ _; exact Nat.le_of_eq rfl) (hb hby d1_9) (fun _ _ => ⟨rfl, e5, (by decide : 1 + 0 ≤ _), (by decide : 3 + 0 ≤ _)⟩)
  dsimp only [Pt.U, Pt.locs, Pt.cells, Pt.slots] at X23 l23 y23 z23 st23 hQ23
  subst l23 y23 z23
  obtain ⟨rfl, Nq23, Kq23, fq23_0, fq23_1⟩ := hQ23
  have K23 : Keep h0 T23.heap [b1] := Keep.trans K5 Kq23 (allS (Or.inr sz_b5) all0)
  have Z23 : n0 ≤ T23.heap.size := Nat.le_trans Z5 Kq23.1
  have N23 := Fr.app N0 Nq23
  refine Goes.tr st23 ?_
  have f24 := ((u2_2.ext E5).keep Kq23)
  have f25 := ((u2_3.ext E5).keep Kq23 (ninS ne5_b1 nin0))
  obtain ⟨T26, h26, X26, e26, W26, st26⟩ := putF X23 hx hZ hown (host := "") (Or.inl (hw _ (List.mem_of_getElem? (i := 33) rfl))) Via.refl rfl f25 f24 (Or.inr ⟨(hw _ (List.mem_of_getElem? (i := 34) rfl)), rfl, hnm⟩) (hw _ (List.mem_of_getElem? (i := 1) rfl)) (ty := (.object "java/util/List")) (by decide) rfl rfl (g := (mkF m 12 #[rv b1] [(.ref b5), (.ref b1)])) rfl rfl (hb hby d1_12)
  have Fw26 := Fld.same W26 f25
  have K26 : Keep h0 h26 [b1] := Keep.wr K23 W26 (Or.inl (List.mem_of_getElem? (i := 0) rfl))
  have Z26 : n0 ≤ h26.size := Nat.le_trans Z23 (Keep.of_wr W26).1
  have N26 := Fr.snoc X26 N23 g_b1
  refine Goes.by st26 ?_
  refine Goes.by (fun _ kz => XS.aloadN X26.here hx rfl (hb hby d1_15) rfl rfl (XS.aloadN X26.here hx rfl (hb hby d1_16) rfl rfl kz)) ?_
  obtain ⟨T27, X27, e27, st27⟩ := getF X26 hx hZ hown (host := "") (Or.inl (hw _ (List.mem_of_getElem? (i := 33) rfl))) Via.refl e26 Fw26 (g := (mkF m 17 #[rv b1] [(.ref b1), (.ref b1)])) rfl rfl (hb hby d1_17)
  refine Goes.by st27 ?_
  have f54 := (Exa.wr W26 f24)
  have f55 := (Exa.wr W26 (A5.keep Kq23))
  obtain ⟨_, _, ⟨T56, L56, k56, n56⟩, -, X56, ⟨Lc56, hQ56, l56, y56, z56⟩, st56⟩ := Jvm.LawKit.callS X27 hx (y := (⟨"java/util/Collections", "unmodifiableList", "(Ljava/util/List;)Ljava/util/List;"⟩ : MethodName)) hown (mvT hZ (hw _ (List.mem_of_getElem? (i := 35) rfl))) (mvT hZ (hw _ (List.mem_of_getElem? (i := 36) rfl))) (mvT hZ (hw _ (List.mem_of_getElem? (i := 37) rfl))) (mvT hZ (hw _ (List.mem_of_getElem? (i := 38) rfl))) (by decide) (backOf (W := 1) (r6_27 l Z a0 hw [] h26 n0 Z26 mA mL mR b1 b5 f54 f55 MA ML MR) hZ (hw _ (List.mem_of_getElem? (i := 38) rfl)) (hw _ (List.mem_of_getElem? (i := 37) rfl)) (by decide) (by decide)) (g := (mkF m 20 #[rv b1] [(.ref b5), (.ref b1)])) rfl (by rw [hml]; rfl) (argsL := [(.ref b5)]) (rest := [(.ref b1)]) (lenOf pd3 rfl) rfl (by show 2 * 0 + _ ≤ _; exact Nat.le_of_eq rfl) (hb hby d1_20) (fun _ _ => ⟨rfl, e27, (by decide : 1 + 1 ≤ _), (by decide : 3 + 2 ≤ _)⟩)
  dsimp only [Pt.U, Pt.locs, Pt.cells, Pt.slots] at X56 l56 y56 z56 st56 hQ56
  subst l56 y56 z56
  rcases hQ56 with hQ56 | hQ56 | hQ56
  · obtain ⟨rfl, Nq56, e56, hc56_32⟩ := hQ56
    have N56 := Fr.app N26 Nq56
    refine Goes.by st56 ?_
    have f57 := (Fld.other W26 ((u2_4.ext E5).keep Kq23 (ninS ne5_b1 nin0)) (Or.inr (slot_ne (Or.inr (hw _ (List.mem_of_getElem? (i := 79) rfl))) (Or.inr (hw _ (List.mem_of_getElem? (i := 34) rfl))) (by decide) (t := (.object "java/util/List")) (t' := (.object "java/util/List")) (by decide) (by decide))))
    obtain ⟨T58, h58, X58, e58, W58, st58⟩ := putF X56 hx hZ hown (host := "") (Or.inl (hw _ (List.mem_of_getElem? (i := 78) rfl))) Via.refl e56 f57 f54 (Or.inr ⟨(hw _ (List.mem_of_getElem? (i := 79) rfl)), rfl, hnm⟩) (hw _ (List.mem_of_getElem? (i := 1) rfl)) (ty := (.object "java/util/List")) (by decide) rfl rfl (g := (mkF m 23 #[rv b1] [(.ref b5), (.ref b1)])) rfl rfl (hb hby d1_23)
    have Fw58 := Fld.same W58 f57
    have K58 : Keep h0 h58 [b1] := Keep.wr K26 W58 (Or.inl (List.mem_of_getElem? (i := 0) rfl))
    have Z58 : n0 ≤ h58.size := Nat.le_trans Z26 (Keep.of_wr W58).1
    have N58 := Fr.snoc X58 N56 g_b1
    refine Goes.by st58 ?_
    refine Goes.by (fun _ kz => XS.aloadN X58.here hx rfl (hb hby d1_26) rfl rfl kz) ?_
    have f62 := (Sta.wr W58 (Sta.wr W26 (own_staKeep (u2_1.ext E5) Kq23 (allS (own_nsE A5) all0))))
    obtain ⟨_, _, ⟨T63, L63, k63, n63⟩, -, X63, ⟨Lc63, hQ63, l63, y63, z63⟩, st63⟩ := Jvm.LawKit.callS X58 hx (y := (⟨"java/util/Set", "of", "()Ljava/util/Set;"⟩ : MethodName)) hown (mvT hZ (hw _ (List.mem_of_getElem? (i := 80) rfl))) (mvT hZ (hw _ (List.mem_of_getElem? (i := 81) rfl))) (mvT hZ (hw _ (List.mem_of_getElem? (i := 82) rfl))) (mvT hZ (hw _ (List.mem_of_getElem? (i := 83) rfl))) (by decide) (backOf (W := 1) (r10_58 l Z a0 hw [] h58 n0 Z58 q2 f62) hZ (hw _ (List.mem_of_getElem? (i := 83) rfl)) (hw _ (List.mem_of_getElem? (i := 82) rfl)) (by decide) (by decide)) (g := (mkF m 27 #[rv b1] [(.ref b1)])) rfl (by rw [hml]; rfl) (argsL := []) (rest := [(.ref b1)]) (lenOf pd4 rfl) rfl (by show 2 * 0 + _ ≤ _; exact Nat.le_of_eq rfl) (hb hby d1_27) (fun _ _ => ⟨rfl, e58, (by decide : 2 + 0 ≤ _), (by decide : 5 + 0 ≤ _)⟩)
    dsimp only [Pt.U, Pt.locs, Pt.cells, Pt.slots] at X63 l63 y63 z63 st63 hQ63
    subst l63 y63 z63
    obtain ⟨rfl, Nq63, e63⟩ := hQ63
    have N63 := Fr.app N58 Nq63
    refine Goes.by st63 ?_
    have f64 := (Exa.wr W58 f54)
    have f65 := (Fld.other W58 (Fld.other W26 ((u2_5.ext E5).keep Kq23 (ninS ne5_b1 nin0)) (Or.inr (slot_ne (Or.inl (hw _ (List.mem_of_getElem? (i := 87) rfl))) (Or.inr (hw _ (List.mem_of_getElem? (i := 34) rfl))) (by decide) (t := (.object "java/util/Set")) (t' := (.object "java/util/List")) (by decide) (by decide)))) (Or.inr (slot_ne (Or.inl (hw _ (List.mem_of_getElem? (i := 87) rfl))) (Or.inr (hw _ (List.mem_of_getElem? (i := 79) rfl))) (by decide) (t := (.object "java/util/Set")) (t' := (.object "java/util/List")) (by decide) (by decide))))
    obtain ⟨T66, h66, X66, e66, W66, st66⟩ := putF X63 hx hZ hown (host := "") (Or.inl (hw _ (List.mem_of_getElem? (i := 86) rfl))) Via.refl e63 f65 f64 (Or.inl (hw _ (List.mem_of_getElem? (i := 87) rfl))) (hw _ (List.mem_of_getElem? (i := 1) rfl)) (ty := (.object "java/util/Set")) (by decide) rfl rfl (g := (mkF m 30 #[rv b1] [(.ref q2), (.ref b1)])) rfl rfl (hb hby d1_30)
    have Fw66 := Fld.same W66 f65
    have K66 : Keep h0 h66 [b1] := Keep.wr K58 W66 (Or.inl (List.mem_of_getElem? (i := 0) rfl))
    have Z66 : n0 ≤ h66.size := Nat.le_trans Z58 (Keep.of_wr W66).1
    have N66 := Fr.snoc X66 N63 g_b1
    refine Goes.by st66 ?_
    show Goes p e below (T66.setTop (mkF m 33 #[rv b1] [])) _
    have f67 := (Fld.other W66 (Fld.other W58 Fw26 (Or.inr (slot_ne (Or.inr (hw _ (List.mem_of_getElem? (i := 34) rfl))) (Or.inr (hw _ (List.mem_of_getElem? (i := 79) rfl))) (by decide) (t := (.object "java/util/List")) (t' := (.object "java/util/List")) (by decide) (by decide)))) (Or.inr (slot_ne (Or.inr (hw _ (List.mem_of_getElem? (i := 34) rfl))) (Or.inl (hw _ (List.mem_of_getElem? (i := 87) rfl))) (by decide) (t := (.object "java/util/List")) (t' := (.object "java/util/Set")) (by decide) (by decide))))
    have f68 := (Fld.other W66 Fw58 (Or.inr (slot_ne (Or.inr (hw _ (List.mem_of_getElem? (i := 79) rfl))) (Or.inl (hw _ (List.mem_of_getElem? (i := 87) rfl))) (by decide) (t := (.object "java/util/List")) (t' := (.object "java/util/Set")) (by decide) (by decide))))
    have f69 := (Fld.other W66 (Fld.other W58 (Fld.other W26 ((u2_6.ext E5).keep Kq23 (ninS ne5_b1 nin0)) (Or.inr (slot_ne (Or.inl (hw _ (List.mem_of_getElem? (i := 94) rfl))) (Or.inr (hw _ (List.mem_of_getElem? (i := 34) rfl))) (by decide) (t := .boolean) (t' := (.object "java/util/List")) (by decide) (by decide)))) (Or.inr (slot_ne (Or.inl (hw _ (List.mem_of_getElem? (i := 94) rfl))) (Or.inr (hw _ (List.mem_of_getElem? (i := 79) rfl))) (by decide) (t := .boolean) (t' := (.object "java/util/List")) (by decide) (by decide)))) (Or.inr (slot_ne (Or.inl (hw _ (List.mem_of_getElem? (i := 94) rfl))) (Or.inl (hw _ (List.mem_of_getElem? (i := 87) rfl))) (by decide) (t := .boolean) (t' := (.object "java/util/Set")) (by decide) (by decide))))
    have f70 := (Exa.wr W66 (Exa.wr W58 f55))
    have f71 := (Fld.other W66 (Fld.other W58 (Fld.other W26 fq23_0 (Or.inl (Ne.symm ne5_b1))) (Or.inl (Ne.symm ne5_b1))) (Or.inl (Ne.symm ne5_b1)))
    have f72 := (Fld.other W66 (Fld.other W58 (Fld.other W26 fq23_1 (Or.inl (Ne.symm ne5_b1))) (Or.inl (Ne.symm ne5_b1))) (Or.inl (Ne.symm ne5_b1)))
    obtain ⟨fs, hr, hrun, hended, hW, hsame⟩ := X66.leave (v := none) (fun _ => rfl)
    exact ⟨_, _, X66.returnOut hx Bd.returns (hb hby d1_33) hr, hrun, hended, _, _, rfl, (by rw [show (T66.setFrames fs).heap = h66 from e66]; exact (Or.inl ⟨b5, rfl, N66, K66, sz_b5, f67, f68, Fw66, f69, f70, f71, f72, hc56_32⟩)), ⟨_, rfl⟩, hW, hsame.mono (by decide) (by decide)⟩
  · obtain ⟨rfl, Nq56, e56, hc56_32, hc56_35⟩ := hQ56
    have N56 := Fr.app N26 Nq56
    refine Goes.by st56 ?_
    have f73 := (Fld.other W26 ((u2_4.ext E5).keep Kq23 (ninS ne5_b1 nin0)) (Or.inr (slot_ne (Or.inr (hw _ (List.mem_of_getElem? (i := 79) rfl))) (Or.inr (hw _ (List.mem_of_getElem? (i := 34) rfl))) (by decide) (t := (.object "java/util/List")) (t' := (.object "java/util/List")) (by decide) (by decide))))
    obtain ⟨T74, h74, X74, e74, W74, st74⟩ := putF X56 hx hZ hown (host := "") (Or.inl (hw _ (List.mem_of_getElem? (i := 78) rfl))) Via.refl e56 f73 f54 (Or.inr ⟨(hw _ (List.mem_of_getElem? (i := 79) rfl)), rfl, hnm⟩) (hw _ (List.mem_of_getElem? (i := 1) rfl)) (ty := (.object "java/util/List")) (by decide) rfl rfl (g := (mkF m 23 #[rv b1] [(.ref b5), (.ref b1)])) rfl rfl (hb hby d1_23)
    have Fw74 := Fld.same W74 f73
    have K74 : Keep h0 h74 [b1] := Keep.wr K26 W74 (Or.inl (List.mem_of_getElem? (i := 0) rfl))
    have Z74 : n0 ≤ h74.size := Nat.le_trans Z26 (Keep.of_wr W74).1
    have N74 := Fr.snoc X74 N56 g_b1
    refine Goes.by st74 ?_
    refine Goes.by (fun _ kz => XS.aloadN X74.here hx rfl (hb hby d1_26) rfl rfl kz) ?_
    have f75 := (Sta.wr W74 (Sta.wr W26 (own_staKeep (u2_1.ext E5) Kq23 (allS (own_nsE A5) all0))))
    obtain ⟨_, _, ⟨T76, L76, k76, n76⟩, -, X76, ⟨Lc76, hQ76, l76, y76, z76⟩, st76⟩ := Jvm.LawKit.callS X74 hx (y := (⟨"java/util/Set", "of", "()Ljava/util/Set;"⟩ : MethodName)) hown (mvT hZ (hw _ (List.mem_of_getElem? (i := 80) rfl))) (mvT hZ (hw _ (List.mem_of_getElem? (i := 81) rfl))) (mvT hZ (hw _ (List.mem_of_getElem? (i := 82) rfl))) (mvT hZ (hw _ (List.mem_of_getElem? (i := 83) rfl))) (by decide) (backOf (W := 1) (r10_58 l Z a0 hw [] h74 n0 Z74 q2 f75) hZ (hw _ (List.mem_of_getElem? (i := 83) rfl)) (hw _ (List.mem_of_getElem? (i := 82) rfl)) (by decide) (by decide)) (g := (mkF m 27 #[rv b1] [(.ref b1)])) rfl (by rw [hml]; rfl) (argsL := []) (rest := [(.ref b1)]) (lenOf pd4 rfl) rfl (by show 2 * 0 + _ ≤ _; exact Nat.le_of_eq rfl) (hb hby d1_27) (fun _ _ => ⟨rfl, e74, (by decide : 2 + 0 ≤ _), (by decide : 5 + 0 ≤ _)⟩)
    dsimp only [Pt.U, Pt.locs, Pt.cells, Pt.slots] at X76 l76 y76 z76 st76 hQ76
    subst l76 y76 z76
    obtain ⟨rfl, Nq76, e76⟩ := hQ76
    have N76 := Fr.app N74 Nq76
    refine Goes.by st76 ?_
    have f77 := (Exa.wr W74 f54)
    have f78 := (Fld.other W74 (Fld.other W26 ((u2_5.ext E5).keep Kq23 (ninS ne5_b1 nin0)) (Or.inr (slot_ne (Or.inl (hw _ (List.mem_of_getElem? (i := 87) rfl))) (Or.inr (hw _ (List.mem_of_getElem? (i := 34) rfl))) (by decide) (t := (.object "java/util/Set")) (t' := (.object "java/util/List")) (by decide) (by decide)))) (Or.inr (slot_ne (Or.inl (hw _ (List.mem_of_getElem? (i := 87) rfl))) (Or.inr (hw _ (List.mem_of_getElem? (i := 79) rfl))) (by decide) (t := (.object "java/util/Set")) (t' := (.object "java/util/List")) (by decide) (by decide))))
    obtain ⟨T79, h79, X79, e79, W79, st79⟩ := putF X76 hx hZ hown (host := "") (Or.inl (hw _ (List.mem_of_getElem? (i := 86) rfl))) Via.refl e76 f78 f77 (Or.inl (hw _ (List.mem_of_getElem? (i := 87) rfl))) (hw _ (List.mem_of_getElem? (i := 1) rfl)) (ty := (.object "java/util/Set")) (by decide) rfl rfl (g := (mkF m 30 #[rv b1] [(.ref q2), (.ref b1)])) rfl rfl (hb hby d1_30)
    have Fw79 := Fld.same W79 f78
    have K79 : Keep h0 h79 [b1] := Keep.wr K74 W79 (Or.inl (List.mem_of_getElem? (i := 0) rfl))
    have Z79 : n0 ≤ h79.size := Nat.le_trans Z74 (Keep.of_wr W79).1
    have N79 := Fr.snoc X79 N76 g_b1
    refine Goes.by st79 ?_
    show Goes p e below (T79.setTop (mkF m 33 #[rv b1] [])) _
    have f80 := (Fld.other W79 (Fld.other W74 Fw26 (Or.inr (slot_ne (Or.inr (hw _ (List.mem_of_getElem? (i := 34) rfl))) (Or.inr (hw _ (List.mem_of_getElem? (i := 79) rfl))) (by decide) (t := (.object "java/util/List")) (t' := (.object "java/util/List")) (by decide) (by decide)))) (Or.inr (slot_ne (Or.inr (hw _ (List.mem_of_getElem? (i := 34) rfl))) (Or.inl (hw _ (List.mem_of_getElem? (i := 87) rfl))) (by decide) (t := (.object "java/util/List")) (t' := (.object "java/util/Set")) (by decide) (by decide))))
    have f81 := (Fld.other W79 Fw74 (Or.inr (slot_ne (Or.inr (hw _ (List.mem_of_getElem? (i := 79) rfl))) (Or.inl (hw _ (List.mem_of_getElem? (i := 87) rfl))) (by decide) (t := (.object "java/util/List")) (t' := (.object "java/util/Set")) (by decide) (by decide))))
    have f82 := (Fld.other W79 (Fld.other W74 (Fld.other W26 ((u2_6.ext E5).keep Kq23 (ninS ne5_b1 nin0)) (Or.inr (slot_ne (Or.inl (hw _ (List.mem_of_getElem? (i := 94) rfl))) (Or.inr (hw _ (List.mem_of_getElem? (i := 34) rfl))) (by decide) (t := .boolean) (t' := (.object "java/util/List")) (by decide) (by decide)))) (Or.inr (slot_ne (Or.inl (hw _ (List.mem_of_getElem? (i := 94) rfl))) (Or.inr (hw _ (List.mem_of_getElem? (i := 79) rfl))) (by decide) (t := .boolean) (t' := (.object "java/util/List")) (by decide) (by decide)))) (Or.inr (slot_ne (Or.inl (hw _ (List.mem_of_getElem? (i := 94) rfl))) (Or.inl (hw _ (List.mem_of_getElem? (i := 87) rfl))) (by decide) (t := .boolean) (t' := (.object "java/util/Set")) (by decide) (by decide))))
    have f83 := (Exa.wr W79 (Exa.wr W74 f55))
    have f84 := (Fld.other W79 (Fld.other W74 (Fld.other W26 fq23_0 (Or.inl (Ne.symm ne5_b1))) (Or.inl (Ne.symm ne5_b1))) (Or.inl (Ne.symm ne5_b1)))
    have f85 := (Fld.other W79 (Fld.other W74 (Fld.other W26 fq23_1 (Or.inl (Ne.symm ne5_b1))) (Or.inl (Ne.symm ne5_b1))) (Or.inl (Ne.symm ne5_b1)))
    obtain ⟨fs, hr, hrun, hended, hW, hsame⟩ := X79.leave (v := none) (fun _ => rfl)
    exact ⟨_, _, X79.returnOut hx Bd.returns (hb hby d1_33) hr, hrun, hended, _, _, rfl, (by rw [show (T79.setFrames fs).heap = h79 from e79]; exact (Or.inr (Or.inl ⟨b5, rfl, N79, K79, sz_b5, f80, f81, Fw79, f82, f83, f84, f85, hc56_32, hc56_35⟩))), ⟨_, rfl⟩, hW, hsame.mono (by decide) (by decide)⟩
  · obtain ⟨b37_56, rfl, Nq56, Kq56, sq56_b37, fq56_0, fq56_1, fq56_2, hc56_32, hc56_35⟩ := hQ56
    have K56 : Keep h0 T56.heap [b1] := Keep.trans K26 Kq56 all0
    have Z56 : n0 ≤ T56.heap.size := Nat.le_trans Z26 Kq56.1
    have ne56_b37_b1 : b1 ≠ b37_56 := Nat.ne_of_lt (Nat.lt_of_lt_of_le f54.lt sq56_b37)
    have ne56_b37_b5 : b5 ≠ b37_56 := Nat.ne_of_lt (Nat.lt_of_lt_of_le f55.lt sq56_b37)
    have g_b37_56 : n0 ≤ b37_56 := Nat.le_trans Z26 sq56_b37
    have sz_b37_56 : h0.size ≤ b37_56 := Nat.le_trans K26.1 sq56_b37
    have N56 := Fr.app N26 Nq56
    refine Goes.by st56 ?_
    have f86 := (f54.keep Kq56)
    have f87 := ((Fld.other W26 ((u2_4.ext E5).keep Kq23 (ninS ne5_b1 nin0)) (Or.inr (slot_ne (Or.inr (hw _ (List.mem_of_getElem? (i := 79) rfl))) (Or.inr (hw _ (List.mem_of_getElem? (i := 34) rfl))) (by decide) (t := (.object "java/util/List")) (t' := (.object "java/util/List")) (by decide) (by decide)))).keep Kq56 nin0)
    obtain ⟨T88, h88, X88, e88, W88, st88⟩ := putF X56 hx hZ hown (host := "") (Or.inl (hw _ (List.mem_of_getElem? (i := 78) rfl))) Via.refl rfl f87 f86 (Or.inr ⟨(hw _ (List.mem_of_getElem? (i := 79) rfl)), rfl, hnm⟩) (hw _ (List.mem_of_getElem? (i := 1) rfl)) (ty := (.object "java/util/List")) (by decide) rfl rfl (g := (mkF m 23 #[rv b1] [(.ref b37_56), (.ref b1)])) rfl rfl (hb hby d1_23)
    have Fw88 := Fld.same W88 f87
    have K88 : Keep h0 h88 [b1] := Keep.wr K56 W88 (Or.inl (List.mem_of_getElem? (i := 0) rfl))
    have Z88 : n0 ≤ h88.size := Nat.le_trans Z56 (Keep.of_wr W88).1
    have N88 := Fr.snoc X88 N56 g_b1
    refine Goes.by st88 ?_
    refine Goes.by (fun _ kz => XS.aloadN X88.here hx rfl (hb hby d1_26) rfl rfl kz) ?_
    have f89 := (Sta.wr W88 (own_staKeep (Sta.wr W26 (own_staKeep (u2_1.ext E5) Kq23 (allS (own_nsE A5) all0))) Kq56 all0))
    obtain ⟨_, _, ⟨T90, L90, k90, n90⟩, -, X90, ⟨Lc90, hQ90, l90, y90, z90⟩, st90⟩ := Jvm.LawKit.callS X88 hx (y := (⟨"java/util/Set", "of", "()Ljava/util/Set;"⟩ : MethodName)) hown (mvT hZ (hw _ (List.mem_of_getElem? (i := 80) rfl))) (mvT hZ (hw _ (List.mem_of_getElem? (i := 81) rfl))) (mvT hZ (hw _ (List.mem_of_getElem? (i := 82) rfl))) (mvT hZ (hw _ (List.mem_of_getElem? (i := 83) rfl))) (by decide) (backOf (W := 1) (r10_58 l Z a0 hw [] h88 n0 Z88 q2 f89) hZ (hw _ (List.mem_of_getElem? (i := 83) rfl)) (hw _ (List.mem_of_getElem? (i := 82) rfl)) (by decide) (by decide)) (g := (mkF m 27 #[rv b1] [(.ref b1)])) rfl (by rw [hml]; rfl) (argsL := []) (rest := [(.ref b1)]) (lenOf pd4 rfl) rfl (by show 2 * 0 + _ ≤ _; exact Nat.le_of_eq rfl) (hb hby d1_27) (fun _ _ => ⟨rfl, e88, (by decide : 2 + 0 ≤ _), (by decide : 5 + 0 ≤ _)⟩)
    dsimp only [Pt.U, Pt.locs, Pt.cells, Pt.slots] at X90 l90 y90 z90 st90 hQ90
    subst l90 y90 z90
    obtain ⟨rfl, Nq90, e90⟩ := hQ90
    have N90 := Fr.app N88 Nq90
    refine Goes.by st90 ?_
    have f91 := (Exa.wr W88 f86)
    have f92 := (Fld.other W88 ((Fld.other W26 ((u2_5.ext E5).keep Kq23 (ninS ne5_b1 nin0)) (Or.inr (slot_ne (Or.inl (hw _ (List.mem_of_getElem? (i := 87) rfl))) (Or.inr (hw _ (List.mem_of_getElem? (i := 34) rfl))) (by decide) (t := (.object "java/util/Set")) (t' := (.object "java/util/List")) (by decide) (by decide)))).keep Kq56 nin0) (Or.inr (slot_ne (Or.inl (hw _ (List.mem_of_getElem? (i := 87) rfl))) (Or.inr (hw _ (List.mem_of_getElem? (i := 79) rfl))) (by decide) (t := (.object "java/util/Set")) (t' := (.object "java/util/List")) (by decide) (by decide))))
    obtain ⟨T93, h93, X93, e93, W93, st93⟩ := putF X90 hx hZ hown (host := "") (Or.inl (hw _ (List.mem_of_getElem? (i := 86) rfl))) Via.refl e90 f92 f91 (Or.inl (hw _ (List.mem_of_getElem? (i := 87) rfl))) (hw _ (List.mem_of_getElem? (i := 1) rfl)) (ty := (.object "java/util/Set")) (by decide) rfl rfl (g := (mkF m 30 #[rv b1] [(.ref q2), (.ref b1)])) rfl rfl (hb hby d1_30)
    have Fw93 := Fld.same W93 f92
    have K93 : Keep h0 h93 [b1] := Keep.wr K88 W93 (Or.inl (List.mem_of_getElem? (i := 0) rfl))
    have Z93 : n0 ≤ h93.size := Nat.le_trans Z88 (Keep.of_wr W93).1
    have N93 := Fr.snoc X93 N90 g_b1
    refine Goes.by st93 ?_
    show Goes p e below (T93.setTop (mkF m 33 #[rv b1] [])) _
    have f94 := (Fld.other W93 (Fld.other W88 (Fw26.keep Kq56 nin0) (Or.inr (slot_ne (Or.inr (hw _ (List.mem_of_getElem? (i := 34) rfl))) (Or.inr (hw _ (List.mem_of_getElem? (i := 79) rfl))) (by decide) (t := (.object "java/util/List")) (t' := (.object "java/util/List")) (by decide) (by decide)))) (Or.inr (slot_ne (Or.inr (hw _ (List.mem_of_getElem? (i := 34) rfl))) (Or.inl (hw _ (List.mem_of_getElem? (i := 87) rfl))) (by decide) (t := (.object "java/util/List")) (t' := (.object "java/util/Set")) (by decide) (by decide))))
    have f95 := (Fld.other W93 Fw88 (Or.inr (slot_ne (Or.inr (hw _ (List.mem_of_getElem? (i := 79) rfl))) (Or.inl (hw _ (List.mem_of_getElem? (i := 87) rfl))) (by decide) (t := (.object "java/util/List")) (t' := (.object "java/util/Set")) (by decide) (by decide))))
    have f96 := (Fld.other W93 (Fld.other W88 ((Fld.other W26 ((u2_6.ext E5).keep Kq23 (ninS ne5_b1 nin0)) (Or.inr (slot_ne (Or.inl (hw _ (List.mem_of_getElem? (i := 94) rfl))) (Or.inr (hw _ (List.mem_of_getElem? (i := 34) rfl))) (by decide) (t := .boolean) (t' := (.object "java/util/List")) (by decide) (by decide)))).keep Kq56 nin0) (Or.inr (slot_ne (Or.inl (hw _ (List.mem_of_getElem? (i := 94) rfl))) (Or.inr (hw _ (List.mem_of_getElem? (i := 79) rfl))) (by decide) (t := .boolean) (t' := (.object "java/util/List")) (by decide) (by decide)))) (Or.inr (slot_ne (Or.inl (hw _ (List.mem_of_getElem? (i := 94) rfl))) (Or.inl (hw _ (List.mem_of_getElem? (i := 87) rfl))) (by decide) (t := .boolean) (t' := (.object "java/util/Set")) (by decide) (by decide))))
    have f97 := (Exa.wr W93 (Exa.wr W88 (f55.keep Kq56)))
    have f98 := (Fld.other W93 (Fld.other W88 ((Fld.other W26 fq23_0 (Or.inl (Ne.symm ne5_b1))).keep Kq56 nin0) (Or.inl (Ne.symm ne5_b1))) (Or.inl (Ne.symm ne5_b1)))
    have f99 := (Fld.other W93 (Fld.other W88 ((Fld.other W26 fq23_1 (Or.inl (Ne.symm ne5_b1))).keep Kq56 nin0) (Or.inl (Ne.symm ne5_b1))) (Or.inl (Ne.symm ne5_b1)))
    have f100 := (Exa.wr W93 (Exa.wr W88 fq56_0))
    have f101 := (Fld.other W93 (Fld.other W88 fq56_1 (Or.inl (Ne.symm ne56_b37_b1))) (Or.inl (Ne.symm ne56_b37_b1)))
    have f102 := (Fld.other W93 (Fld.other W88 fq56_2 (Or.inl (Ne.symm ne56_b37_b1))) (Or.inl (Ne.symm ne56_b37_b1)))
    obtain ⟨fs, hr, hrun, hended, hW, hsame⟩ := X93.leave (v := none) (fun _ => rfl)
    exact ⟨_, _, X93.returnOut hx Bd.returns (hb hby d1_33) hr, hrun, hended, _, _, rfl, (by rw [show (T93.setFrames fs).heap = h93 from e93]; exact (Or.inr (Or.inr ⟨b5, b37_56, rfl, N93, K93, sz_b5, sz_b37_56, f94, f95, Fw93, f96, f97, f98, f99, f100, f101, f102, hc56_32, hc56_35⟩))), ⟨_, rfl⟩, hW, hsame.mono (by decide) (by decide)⟩
def Q_r11_105 (Z : State) (b1 : Addr) (h0 : Heap) (n0 : Nat) (v : Option Value) (h : Heap) (L : List Loc) : Prop := (v = some (.int 0) ∧ Fr n0 L ∧ h = h0)
set_option maxRecDepth 65536 in
set_option maxHeartbeats 40000000 in
theorem r11_105 (l : Launch) (Z : State) (a0 : Array Value) (hw : ∀ d ∈ tables_1, d.before a0 Z = true) (ws : List Jvm.Cond) (h0 : Heap) (n0 : Nat) (Z0 : n0 ≤ h0.size) (b1 : Addr) (u106_6 : Fld Z h0 b1 "com/example/entail/entail/model/EntrySettings" "blocks" "Z" (.int 0))  :
    MetFree l (⟨"com/example/entail/entail/model/EntrySettings", "blocks", "()Z"⟩ : MethodName) (head1 (Jvm.Cond.code (⟨"com/example/entail/entail/model/EntrySettings", "blocks", "()Z"⟩ : MethodName) prog_7_method_3_code 1 (some .boolean) :: ws) ({ frames := 0, cells := 0, slots := 0, locals := 0 } : Room)) (fun a U => a = #[(.ref b1)] ∧ Z.Warmed39 U.vm ∧ U.heap = h0) (fun _ _ _ _ _ => True) (fun _ U o U' => ∃ v L, o = .returned v ∧ Q_r11_105 Z b1 h0 n0 v U'.heap L ∧ FrameEnd U o U' L ({ frames := 0, cells := 0, slots := 0, locals := 0 } : Room).cells ({ frames := 0, cells := 0, slots := 0, locals := 0 } : Room).slots) := by
  refine MetFree.of_bodySF (plainFor_of_name pn8) hisR ?_
  intro p e s m args below meth c s₁ Bd hml0 hP hK
  obtain ⟨rfl, hZ, hh⟩ := hP
  have hx := Bd.exec
  have hby := Bd.bytes
  have hml : c.maxLocals = 1 := hml0
  have hown : s.vm.findClass "com/example/entail/entail/model/EntrySettings" = some m.cls := findClass_of_methodNamed Bd.named
  have hnm := (name_of_methodNamed Bd.named Bd.method).1
  have X0 : Stand p l e ({ frames := 0, cells := 0, slots := 0, locals := 0 } : Room) s m #[(.ref b1)] below meth c s₁ [] 0 0 := Stand.of_body Bd
  have e0 : s₁.heap = h0 := by rw [← hh, Bd.state]; rfl
  have N0 := Fr.nil n0
  refine Goes.out (Goes.by (fun tz kz => castTop (ef11_R m b1) kz) ?_)
  show Goes p e below (s₁.setTop (mkF m 0 #[rv b1] [])) _
  refine Goes.by (fun _ kz => XS.aloadN X0.here hx rfl (hb hby d11_0) rfl rfl kz) ?_
  obtain ⟨T108, X108, e108, st108⟩ := getF X0 hx hZ hown (host := "") (Or.inl (hw _ (List.mem_of_getElem? (i := 93) rfl))) Via.refl e0 u106_6 (g := (mkF m 1 #[rv b1] [(.ref b1)])) rfl rfl (hb hby d11_1)
  refine Goes.by st108 ?_
  show Goes p e below (T108.setTop (mkF m 4 #[rv b1] [(.int 0)])) _
  obtain ⟨fs, hr, hrun, hended, hW, hsame⟩ := X108.leave (v := some (.int 0)) (fun h => by rw [Bd.returns] at h; cases h)
  exact ⟨_, _, retN X108 hx (t := .boolean) Bd.returns (by simp) (hb hby d11_4) hr, hrun, hended, _, _, rfl, ⟨rfl, N0, e108⟩, ⟨_, rfl⟩, hW, hsame.mono (by decide) (by decide)⟩
def Q_r12_110 (Z : State) (q2 : Addr) (b1 : Addr) (b5_105 : Addr) (h0 : Heap) (n0 : Nat) (v : Option Value) (h : Heap) (L : List Loc) : Prop := (v = some (.int 0) ∧ Fr n0 L ∧ Keep h0 h [b1] ∧ Fld Z h b1 "com/example/entail/entail/model/EntrySettings" "rules" "Ljava/util/List;" (.ref b5_105) ∧ Fld Z h b1 "com/example/entail/entail/model/EntrySettings" "rulesView" "Ljava/util/List;" (.ref b5_105) ∧ Fld Z h b1 "com/example/entail/entail/model/EntrySettings" "blockedTrusteesView" "Ljava/util/Set;" (.ref q2) ∧ Fld Z h b1 "com/example/entail/entail/model/EntrySettings" "blocks" "Z" (.int 0))
set_option maxRecDepth 65536 in
set_option maxHeartbeats 40000000 in
theorem r12_110 (l : Launch) (Z : State) (a0 : Array Value) (hw : ∀ d ∈ tables_1, d.before a0 Z = true) (ws : List Jvm.Cond) (h0 : Heap) (n0 : Nat) (Z0 : n0 ≤ h0.size) (q2 : Addr) (b1 : Addr) (b5_105 : Addr) (u111_2 : Exa Z h0 b1 "com/example/entail/entail/model/EntrySettings") (u111_3 : Fld Z h0 b1 "com/example/entail/entail/model/EntrySettings" "rules" "Ljava/util/List;" (.ref b5_105)) (u111_4 : Fld Z h0 b1 "com/example/entail/entail/model/EntrySettings" "rulesView" "Ljava/util/List;" (.ref b5_105)) (u111_5 : Fld Z h0 b1 "com/example/entail/entail/model/EntrySettings" "blockedTrusteesView" "Ljava/util/Set;" (.ref q2)) (u111_6 : Fld Z h0 b1 "com/example/entail/entail/model/EntrySettings" "blocks" "Z" (.int 0)) (g_b1 : n0 ≤ b1) :
    MetFree l (⟨"com/example/entail/entail/model/EntrySettings", "setBlocks", "(Z)Z"⟩ : MethodName) (head1 (Jvm.Cond.code (⟨"com/example/entail/entail/model/EntrySettings", "setBlocks", "(Z)Z"⟩ : MethodName) prog_7_method_7_code 3 (some .boolean) :: ws) ({ frames := 0, cells := 0, slots := 0, locals := 0 } : Room)) (fun a U => a = #[(.ref b1), (.int 0)] ∧ Z.Warmed39 U.vm ∧ U.heap = h0) (fun _ _ _ _ _ => True) (fun _ U o U' => ∃ v L, o = .returned v ∧ Q_r12_110 Z q2 b1 b5_105 h0 n0 v U'.heap L ∧ FrameEnd U o U' L ({ frames := 0, cells := 0, slots := 0, locals := 0 } : Room).cells ({ frames := 0, cells := 0, slots := 0, locals := 0 } : Room).slots) := by
  refine MetFree.of_bodySF (plainFor_of_name pn8) hisR ?_
  intro p e s m args below meth c s₁ Bd hml0 hP hK
  obtain ⟨rfl, hZ, hh⟩ := hP
  have hx := Bd.exec
  have hby := Bd.bytes
  have hml : c.maxLocals = 3 := hml0
  have hown : s.vm.findClass "com/example/entail/entail/model/EntrySettings" = some m.cls := findClass_of_methodNamed Bd.named
  have hnm := (name_of_methodNamed Bd.named Bd.method).1
  have X0 : Stand p l e ({ frames := 0, cells := 0, slots := 0, locals := 0 } : Room) s m #[(.ref b1), (.int 0)] below meth c s₁ [] 0 0 := Stand.of_body Bd
  have e0 : s₁.heap = h0 := by rw [← hh, Bd.state]; rfl
  have N0 := Fr.nil n0
  refine Goes.out (Goes.by (fun tz kz => castTop (ef12_RI m b1 ((0 : Int32))) kz) ?_)
  show Goes p e below (s₁.setTop (mkF m 0 #[rv b1, iv 0, .unset] [])) _
  refine Goes.by (fun _ kz => XS.aloadN X0.here hx rfl (hb hby d12_0) rfl rfl kz) ?_
  obtain ⟨T113, X113, e113, st113⟩ := getF X0 hx hZ hown (host := "") (Or.inl (hw _ (List.mem_of_getElem? (i := 93) rfl))) Via.refl e0 u111_6 (g := (mkF m 1 #[rv b1, iv 0, .unset] [(.ref b1)])) rfl rfl (hb hby d12_1)
  refine Goes.by st113 ?_
  refine Goes.by (fun _ kz => XS.iloadN X113.here hx rfl (hb hby d12_4) rfl (XS.icmpYes X113.here hx rfl (pc0 := 5) (pc' := 12) rfl (hb hby d12_5) rfl (teq (by decide : (0 : Int32) = (0 : Int32))).1 (by decide) (by decide) (XS.iconst X113.here hx rfl (hb hby d12_12) kz))) ?_
  show Goes p e below (T113.setTop (mkF m 13 #[rv b1, iv 0, .unset] [(.int 0)])) _
  refine Goes.by (fun _ kz => XS.istoreN X113.here hx rfl (hb hby d12_13) rfl (l' := #[rv b1, iv 0, iv 0]) rfl (XS.aloadN X113.here hx rfl (hb hby d12_14) rfl rfl (XS.iloadN X113.here hx rfl (hb hby d12_15) rfl kz))) ?_
  obtain ⟨T114, h114, X114, e114, W114, st114⟩ := putFN X113 hx hZ hown (hw _ (List.mem_of_getElem? (i := 93) rfl)) Via.refl e113 u111_6 u111_2 (Or.inl (hw _ (List.mem_of_getElem? (i := 94) rfl))) (hw _ (List.mem_of_getElem? (i := 1) rfl)) (ty := .boolean) (v' := (.int 0)) (by decide) rfl rfl (g := (mkF m 16 #[rv b1, iv 0, iv 0] [(.int 0), (.ref b1)])) rfl rfl (hb hby d12_16)
  have Fw114 := Fld.same W114 u111_6
  have K114 : Keep h0 h114 [b1] := Keep.wr (Keep.refl h0 [b1]) W114 (Or.inl (List.mem_of_getElem? (i := 0) rfl))
  have Z114 : n0 ≤ h114.size := Nat.le_trans Z0 (Keep.of_wr W114).1
  have N114 := Fr.snoc X114 N0 g_b1
  refine Goes.by st114 ?_
  refine Goes.by (fun _ kz => XS.iloadN X114.here hx rfl (hb hby d12_19) rfl kz) ?_
  show Goes p e below (T114.setTop (mkF m 20 #[rv b1, iv 0, iv 0] [(.int 0)])) _
  have f115 := (Fld.other W114 u111_3 (Or.inr (slot_ne (Or.inr (hw _ (List.mem_of_getElem? (i := 34) rfl))) (Or.inl (hw _ (List.mem_of_getElem? (i := 94) rfl))) (by decide) (t := (.object "java/util/List")) (t' := .boolean) (by decide) (by decide))))
  have f116 := (Fld.other W114 u111_4 (Or.inr (slot_ne (Or.inr (hw _ (List.mem_of_getElem? (i := 79) rfl))) (Or.inl (hw _ (List.mem_of_getElem? (i := 94) rfl))) (by decide) (t := (.object "java/util/List")) (t' := .boolean) (by decide) (by decide))))
  have f117 := (Fld.other W114 u111_5 (Or.inr (slot_ne (Or.inl (hw _ (List.mem_of_getElem? (i := 87) rfl))) (Or.inl (hw _ (List.mem_of_getElem? (i := 94) rfl))) (by decide) (t := (.object "java/util/Set")) (t' := .boolean) (by decide) (by decide))))
  obtain ⟨fs, hr, hrun, hended, hW, hsame⟩ := X114.leave (v := some (.int 0)) (fun h => by rw [Bd.returns] at h; cases h)
  exact ⟨_, _, retN X114 hx (t := .boolean) Bd.returns (by simp) (hb hby d12_20) hr, hrun, hended, _, _, rfl, (by rw [show (T114.setFrames fs).heap = h114 from e114]; exact ⟨rfl, N114, K114, f115, f116, f117, Fw114⟩), ⟨_, rfl⟩, hW, hsame.mono (by decide) (by decide)⟩
def Q_r12_133 (Z : State) (q2 : Addr) (b1 : Addr) (b5_105 : Addr) (b37_56_105 : Addr) (h0 : Heap) (n0 : Nat) (v : Option Value) (h : Heap) (L : List Loc) : Prop := (v = some (.int 0) ∧ Fr n0 L ∧ Keep h0 h [b1] ∧ Fld Z h b1 "com/example/entail/entail/model/EntrySettings" "rules" "Ljava/util/List;" (.ref b5_105) ∧ Fld Z h b1 "com/example/entail/entail/model/EntrySettings" "rulesView" "Ljava/util/List;" (.ref b37_56_105) ∧ Fld Z h b1 "com/example/entail/entail/model/EntrySettings" "blockedTrusteesView" "Ljava/util/Set;" (.ref q2) ∧ Fld Z h b1 "com/example/entail/entail/model/EntrySettings" "blocks" "Z" (.int 0))
set_option maxRecDepth 65536 in
set_option maxHeartbeats 40000000 in
theorem r12_133 (l : Launch) (Z : State) (a0 : Array Value) (hw : ∀ d ∈ tables_1, d.before a0 Z = true) (ws : List Jvm.Cond) (h0 : Heap) (n0 : Nat) (Z0 : n0 ≤ h0.size) (q2 : Addr) (b1 : Addr) (b5_105 : Addr) (b37_56_105 : Addr) (u134_2 : Exa Z h0 b1 "com/example/entail/entail/model/EntrySettings") (u134_3 : Fld Z h0 b1 "com/example/entail/entail/model/EntrySettings" "rules" "Ljava/util/List;" (.ref b5_105)) (u134_4 : Fld Z h0 b1 "com/example/entail/entail/model/EntrySettings" "rulesView" "Ljava/util/List;" (.ref b37_56_105)) (u134_5 : Fld Z h0 b1 "com/example/entail/entail/model/EntrySettings" "blockedTrusteesView" "Ljava/util/Set;" (.ref q2)) (u134_6 : Fld Z h0 b1 "com/example/entail/entail/model/EntrySettings" "blocks" "Z" (.int 0)) (g_b1 : n0 ≤ b1) :
    MetFree l (⟨"com/example/entail/entail/model/EntrySettings", "setBlocks", "(Z)Z"⟩ : MethodName) (head1 (Jvm.Cond.code (⟨"com/example/entail/entail/model/EntrySettings", "setBlocks", "(Z)Z"⟩ : MethodName) prog_7_method_7_code 3 (some .boolean) :: ws) ({ frames := 0, cells := 0, slots := 0, locals := 0 } : Room)) (fun a U => a = #[(.ref b1), (.int 0)] ∧ Z.Warmed39 U.vm ∧ U.heap = h0) (fun _ _ _ _ _ => True) (fun _ U o U' => ∃ v L, o = .returned v ∧ Q_r12_133 Z q2 b1 b5_105 b37_56_105 h0 n0 v U'.heap L ∧ FrameEnd U o U' L ({ frames := 0, cells := 0, slots := 0, locals := 0 } : Room).cells ({ frames := 0, cells := 0, slots := 0, locals := 0 } : Room).slots) := by
  refine MetFree.of_bodySF (plainFor_of_name pn8) hisR ?_
  intro p e s m args below meth c s₁ Bd hml0 hP hK
  obtain ⟨rfl, hZ, hh⟩ := hP
  have hx := Bd.exec
  have hby := Bd.bytes
  have hml : c.maxLocals = 3 := hml0
  have hown : s.vm.findClass "com/example/entail/entail/model/EntrySettings" = some m.cls := findClass_of_methodNamed Bd.named
  have hnm := (name_of_methodNamed Bd.named Bd.method).1
  have X0 : Stand p l e ({ frames := 0, cells := 0, slots := 0, locals := 0 } : Room) s m #[(.ref b1), (.int 0)] below meth c s₁ [] 0 0 := Stand.of_body Bd
  have e0 : s₁.heap = h0 := by rw [← hh, Bd.state]; rfl
  have N0 := Fr.nil n0
  refine Goes.out (Goes.by (fun tz kz => castTop (ef12_RI m b1 ((0 : Int32))) kz) ?_)
  show Goes p e below (s₁.setTop (mkF m 0 #[rv b1, iv 0, .unset] [])) _
  refine Goes.by (fun _ kz => XS.aloadN X0.here hx rfl (hb hby d12_0) rfl rfl kz) ?_
  obtain ⟨T136, X136, e136, st136⟩ := getF X0 hx hZ hown (host := "") (Or.inl (hw _ (List.mem_of_getElem? (i := 93) rfl))) Via.refl e0 u134_6 (g := (mkF m 1 #[rv b1, iv 0, .unset] [(.ref b1)])) rfl rfl (hb hby d12_1)
  refine Goes.by st136 ?_
  refine Goes.by (fun _ kz => XS.iloadN X136.here hx rfl (hb hby d12_4) rfl (XS.icmpYes X136.here hx rfl (pc0 := 5) (pc' := 12) rfl (hb hby d12_5) rfl (teq (by decide : (0 : Int32) = (0 : Int32))).1 (by decide) (by decide) (XS.iconst X136.here hx rfl (hb hby d12_12) kz))) ?_
  show Goes p e below (T136.setTop (mkF m 13 #[rv b1, iv 0, .unset] [(.int 0)])) _
  refine Goes.by (fun _ kz => XS.istoreN X136.here hx rfl (hb hby d12_13) rfl (l' := #[rv b1, iv 0, iv 0]) rfl (XS.aloadN X136.here hx rfl (hb hby d12_14) rfl rfl (XS.iloadN X136.here hx rfl (hb hby d12_15) rfl kz))) ?_
  obtain ⟨T137, h137, X137, e137, W137, st137⟩ := putFN X136 hx hZ hown (hw _ (List.mem_of_getElem? (i := 93) rfl)) Via.refl e136 u134_6 u134_2 (Or.inl (hw _ (List.mem_of_getElem? (i := 94) rfl))) (hw _ (List.mem_of_getElem? (i := 1) rfl)) (ty := .boolean) (v' := (.int 0)) (by decide) rfl rfl (g := (mkF m 16 #[rv b1, iv 0, iv 0] [(.int 0), (.ref b1)])) rfl rfl (hb hby d12_16)
  have Fw137 := Fld.same W137 u134_6
  have K137 : Keep h0 h137 [b1] := Keep.wr (Keep.refl h0 [b1]) W137 (Or.inl (List.mem_of_getElem? (i := 0) rfl))
  have Z137 : n0 ≤ h137.size := Nat.le_trans Z0 (Keep.of_wr W137).1
  have N137 := Fr.snoc X137 N0 g_b1
  refine Goes.by st137 ?_
  refine Goes.by (fun _ kz => XS.iloadN X137.here hx rfl (hb hby d12_19) rfl kz) ?_
  show Goes p e below (T137.setTop (mkF m 20 #[rv b1, iv 0, iv 0] [(.int 0)])) _
  have f138 := (Fld.other W137 u134_3 (Or.inr (slot_ne (Or.inr (hw _ (List.mem_of_getElem? (i := 34) rfl))) (Or.inl (hw _ (List.mem_of_getElem? (i := 94) rfl))) (by decide) (t := (.object "java/util/List")) (t' := .boolean) (by decide) (by decide))))
  have f139 := (Fld.other W137 u134_4 (Or.inr (slot_ne (Or.inr (hw _ (List.mem_of_getElem? (i := 79) rfl))) (Or.inl (hw _ (List.mem_of_getElem? (i := 94) rfl))) (by decide) (t := (.object "java/util/List")) (t' := .boolean) (by decide) (by decide))))
  have f140 := (Fld.other W137 u134_5 (Or.inr (slot_ne (Or.inl (hw _ (List.mem_of_getElem? (i := 87) rfl))) (Or.inl (hw _ (List.mem_of_getElem? (i := 94) rfl))) (by decide) (t := (.object "java/util/Set")) (t' := .boolean) (by decide) (by decide))))
  obtain ⟨fs, hr, hrun, hended, hW, hsame⟩ := X137.leave (v := some (.int 0)) (fun h => by rw [Bd.returns] at h; cases h)
  exact ⟨_, _, retN X137 hx (t := .boolean) Bd.returns (by simp) (hb hby d12_20) hr, hrun, hended, _, _, rfl, (by rw [show (T137.setFrames fs).heap = h137 from e137]; exact ⟨rfl, N137, K137, f138, f139, f140, Fw137⟩), ⟨_, rfl⟩, hW, hsame.mono (by decide) (by decide)⟩
def Q_r5_155 (Z : State) (b151 : Addr) (h0 : Heap) (n0 : Nat) (v : Option Value) (h : Heap) (L : List Loc) : Prop := (v = none ∧ Fr n0 L ∧ h = h0)
set_option maxRecDepth 65536 in
set_option maxHeartbeats 40000000 in
theorem r5_155 (l : Launch) (Z : State) (a0 : Array Value) (hw : ∀ d ∈ tables_1, d.before a0 Z = true) (ws : List Jvm.Cond) (h0 : Heap) (n0 : Nat) (Z0 : n0 ≤ h0.size) (b151 : Addr)   :
    MetFree l (⟨"java/util/AbstractCollection", "<init>", "()V"⟩ : MethodName) (head1 (Jvm.Cond.code (⟨"java/util/AbstractCollection", "<init>", "()V"⟩ : MethodName) jdk_22_method_1_code 1 none :: ws) ({ frames := 1, cells := 0, slots := 0, locals := 12 } : Room)) (fun a U => a = #[(.ref b151)] ∧ Z.Warmed39 U.vm ∧ U.heap = h0) (fun _ _ _ _ _ => True) (fun _ U o U' => ∃ v L, o = .returned v ∧ Q_r5_155 Z b151 h0 n0 v U'.heap L ∧ FrameEnd U o U' L ({ frames := 1, cells := 0, slots := 0, locals := 12 } : Room).cells ({ frames := 1, cells := 0, slots := 0, locals := 12 } : Room).slots) := by
  refine MetFree.of_bodySF (plainFor_of_name pn0) hisR ?_
  intro p e s m args below meth c s₁ Bd hml0 hP hK
  obtain ⟨rfl, hZ, hh⟩ := hP
  have hx := Bd.exec
  have hby := Bd.bytes
  have hml : c.maxLocals = 1 := hml0
  have hown : s.vm.findClass "java/util/AbstractCollection" = some m.cls := findClass_of_methodNamed Bd.named
  have hnm := (name_of_methodNamed Bd.named Bd.method).1
  have X0 : Stand p l e ({ frames := 1, cells := 0, slots := 0, locals := 12 } : Room) s m #[(.ref b151)] below meth c s₁ [] 0 0 := Stand.of_body Bd
  have e0 : s₁.heap = h0 := by rw [← hh, Bd.state]; rfl
  have N0 := Fr.nil n0
  refine Goes.out (Goes.by (fun tz kz => castTop (ef5_R m b151) kz) ?_)
  show Goes p e below (s₁.setTop (mkF m 0 #[rv b151] [])) _
  refine Goes.by (fun _ kz => XS.aloadN X0.here hx rfl (hb hby d5_0) rfl rfl kz) ?_
  obtain ⟨T158, X158, e158, st158⟩ := initO X0 hx hZ hown (hw _ (List.mem_of_getElem? (i := 27) rfl)) (hw _ (List.mem_of_getElem? (i := 7) rfl)) (hw _ (List.mem_of_getElem? (i := 8) rfl)) e0 (g := (mkF m 1 #[rv b151] [(.ref b151)])) rfl (by rw [hml]; rfl) rfl (hb hby d5_1) (by decide) (W := 0) (by show 2 * 0 + _ ≤ _; exact Nat.le_of_eq rfl) (by decide)
  refine Goes.by st158 ?_
  show Goes p e below (T158.setTop (mkF m 4 #[rv b151] [])) _
  obtain ⟨fs, hr, hrun, hended, hW, hsame⟩ := X158.leave (v := none) (fun _ => rfl)
  exact ⟨_, _, X158.returnOut hx Bd.returns (hb hby d5_4) hr, hrun, hended, _, _, rfl, ⟨rfl, N0, e158⟩, ⟨_, rfl⟩, hW, hsame.mono (by decide) (by decide)⟩
def Q_r4_153 (Z : State) (b151 : Addr) (h0 : Heap) (n0 : Nat) (v : Option Value) (h : Heap) (L : List Loc) : Prop := (v = none ∧ Fr n0 L ∧ Keep h0 h [b151] ∧ Fld Z h b151 "java/util/AbstractList" "modCount" "I" (.int 0) ∧ Fld Z h b151 "java/util/ArrayList" "elementData" "[Ljava/lang/Object;" .null)
set_option maxRecDepth 65536 in
set_option maxHeartbeats 40000000 in
theorem r4_153 (l : Launch) (Z : State) (a0 : Array Value) (hw : ∀ d ∈ tables_1, d.before a0 Z = true) (ws : List Jvm.Cond) (h0 : Heap) (n0 : Nat) (Z0 : n0 ≤ h0.size) (b151 : Addr) (u154_7 : Exa Z h0 b151 "java/util/ArrayList") (u154_8 : Fld Z h0 b151 "java/util/AbstractList" "modCount" "I" (.int 0)) (u154_9 : Fld Z h0 b151 "java/util/ArrayList" "elementData" "[Ljava/lang/Object;" .null) (g_b151 : n0 ≤ b151) :
    MetFree l (⟨"java/util/AbstractList", "<init>", "()V"⟩ : MethodName) (head1 (Jvm.Cond.code (⟨"java/util/AbstractList", "<init>", "()V"⟩ : MethodName) jdk_39_method_1_code 1 none :: ws) ({ frames := 2, cells := 0, slots := 0, locals := 24 } : Room)) (fun a U => a = #[(.ref b151)] ∧ Z.Warmed39 U.vm ∧ U.heap = h0) (fun _ _ _ _ _ => True) (fun _ U o U' => ∃ v L, o = .returned v ∧ Q_r4_153 Z b151 h0 n0 v U'.heap L ∧ FrameEnd U o U' L ({ frames := 2, cells := 0, slots := 0, locals := 24 } : Room).cells ({ frames := 2, cells := 0, slots := 0, locals := 24 } : Room).slots) := by
  refine MetFree.of_bodySF (plainFor_of_name pn1) hisR ?_
  intro p e s m args below meth c s₁ Bd hml0 hP hK
  obtain ⟨rfl, hZ, hh⟩ := hP
  have hx := Bd.exec
  have hby := Bd.bytes
  have hml : c.maxLocals = 1 := hml0
  have hown : s.vm.findClass "java/util/AbstractList" = some m.cls := findClass_of_methodNamed Bd.named
  have hnm := (name_of_methodNamed Bd.named Bd.method).1
  have X0 : Stand p l e ({ frames := 2, cells := 0, slots := 0, locals := 24 } : Room) s m #[(.ref b151)] below meth c s₁ [] 0 0 := Stand.of_body Bd
  have e0 : s₁.heap = h0 := by rw [← hh, Bd.state]; rfl
  have N0 := Fr.nil n0
  refine Goes.out (Goes.by (fun tz kz => castTop (ef4_R m b151) kz) ?_)
  show Goes p e below (s₁.setTop (mkF m 0 #[rv b151] [])) _
  refine Goes.by (fun _ kz => XS.aloadN X0.here hx rfl (hb hby d4_0) rfl rfl kz) ?_
  obtain ⟨_, _, ⟨T159, L159, k159, n159⟩, -, X159, ⟨Lc159, hQ159, l159, y159, z159⟩, st159⟩ := X0.specialBack hx (y := (⟨"java/util/AbstractCollection", "<init>", "()V"⟩ : MethodName)) rfl hown (mvT hZ (hw _ (List.mem_of_getElem? (i := 21) rfl))) (mvT hZ (hw _ (List.mem_of_getElem? (i := 22) rfl))) (mvT hZ (hw _ (List.mem_of_getElem? (i := 26) rfl))) (by decide) (backOf (W := 0) (r5_155 l Z a0 hw [] h0 n0 Z0 b151) hZ (hw _ (List.mem_of_getElem? (i := 26) rfl)) (hw _ (List.mem_of_getElem? (i := 25) rfl)) (by decide) (by decide)) (g := (mkF m 1 #[rv b151] [(.ref b151)])) rfl (by rw [hml]; rfl) (Steps.refl _) (a := b151) (argsL := []) (rest := []) (lenOf pd0 rfl) rfl (by show 2 * 0 + _ ≤ _; exact Nat.le_of_eq rfl) (hb hby d4_1) (fun _ _ => ⟨rfl, e0, (by decide : 0 + 0 ≤ _), (by decide : 0 + 0 ≤ _)⟩)
  dsimp only [Pt.U, Pt.locs, Pt.cells, Pt.slots] at X159 l159 y159 z159 st159 hQ159
  subst l159 y159 z159
  obtain ⟨rfl, Nq159, e159⟩ := hQ159
  have N159 := Fr.app N0 Nq159
  refine Goes.tr st159 ?_
  refine Goes.by (fun _ kz => XS.aloadN X159.here hx rfl (hb hby d4_4) rfl rfl (XS.iconst X159.here hx rfl (hb hby d4_5) kz)) ?_
  obtain ⟨T160, h160, X160, e160, W160, st160⟩ := putF X159 hx hZ hown (host := "") (Or.inl (hw _ (List.mem_of_getElem? (i := 28) rfl))) Via.refl e159 u154_8 u154_7 (Or.inl (hw _ (List.mem_of_getElem? (i := 29) rfl))) (hw _ (List.mem_of_getElem? (i := 10) rfl)) (ty := .int) (by decide) rfl rfl (g := (mkF m 6 #[rv b151] [(.int 0), (.ref b151)])) rfl rfl (hb hby d4_6)
  have Fw160 := Fld.same W160 u154_8
  have K160 : Keep h0 h160 [b151] := Keep.wr (Keep.refl h0 [b151]) W160 (Or.inl (List.mem_of_getElem? (i := 0) rfl))
  have Z160 : n0 ≤ h160.size := Nat.le_trans Z0 (Keep.of_wr W160).1
  have N160 := Fr.snoc X160 N159 g_b151
  refine Goes.by st160 ?_
  show Goes p e below (T160.setTop (mkF m 9 #[rv b151] [])) _
  have f161 := (Fld.other W160 u154_9 (Or.inr (slot_ne (Or.inl (hw _ (List.mem_of_getElem? (i := 32) rfl))) (Or.inl (hw _ (List.mem_of_getElem? (i := 29) rfl))) (by decide) (t := (.array (.object "java/lang/Object"))) (t' := .int) (by decide) (by decide))))
  obtain ⟨fs, hr, hrun, hended, hW, hsame⟩ := X160.leave (v := none) (fun _ => rfl)
  exact ⟨_, _, X160.returnOut hx Bd.returns (hb hby d4_9) hr, hrun, hended, _, _, rfl, (by rw [show (T160.setFrames fs).heap = h160 from e160]; exact ⟨rfl, N160, K160, Fw160, f161⟩), ⟨_, rfl⟩, hW, hsame.mono (by decide) (by decide)⟩
def Q_r3_151 (Z : State) (q1 : Addr) (b151 : Addr) (h0 : Heap) (n0 : Nat) (v : Option Value) (h : Heap) (L : List Loc) : Prop := (v = none ∧ Fr n0 L ∧ Keep h0 h [b151] ∧ Fld Z h b151 "java/util/AbstractList" "modCount" "I" (.int 0) ∧ Fld Z h b151 "java/util/ArrayList" "elementData" "[Ljava/lang/Object;" (.ref q1))
set_option maxRecDepth 65536 in
set_option maxHeartbeats 40000000 in
theorem r3_151 (l : Launch) (Z : State) (a0 : Array Value) (hw : ∀ d ∈ tables_1, d.before a0 Z = true) (ws : List Jvm.Cond) (h0 : Heap) (n0 : Nat) (Z0 : n0 ≤ h0.size) (q1 : Addr) (b151 : Addr) (u152_0 : Sta Z h0 "java/util/ArrayList" "DEFAULTCAPACITY_EMPTY_ELEMENTDATA" "[Ljava/lang/Object;" (.ref q1)) (u152_7 : Exa Z h0 b151 "java/util/ArrayList") (u152_8 : Fld Z h0 b151 "java/util/AbstractList" "modCount" "I" (.int 0)) (u152_9 : Fld Z h0 b151 "java/util/ArrayList" "elementData" "[Ljava/lang/Object;" .null) (g_b151 : n0 ≤ b151) :
    MetFree l (⟨"java/util/ArrayList", "<init>", "()V"⟩ : MethodName) (head1 (Jvm.Cond.code (⟨"java/util/ArrayList", "<init>", "()V"⟩ : MethodName) jdk_38_method_2_code 1 none :: ws) ({ frames := 3, cells := 0, slots := 0, locals := 36 } : Room)) (fun a U => a = #[(.ref b151)] ∧ Z.Warmed39 U.vm ∧ U.heap = h0) (fun _ _ _ _ _ => True) (fun _ U o U' => ∃ v L, o = .returned v ∧ Q_r3_151 Z q1 b151 h0 n0 v U'.heap L ∧ FrameEnd U o U' L ({ frames := 3, cells := 0, slots := 0, locals := 36 } : Room).cells ({ frames := 3, cells := 0, slots := 0, locals := 36 } : Room).slots) := by
  refine MetFree.of_bodySF (plainFor_of_name pn2) hisR ?_
  intro p e s m args below meth c s₁ Bd hml0 hP hK
  obtain ⟨rfl, hZ, hh⟩ := hP
  have hx := Bd.exec
  have hby := Bd.bytes
  have hml : c.maxLocals = 1 := hml0
  have hown : s.vm.findClass "java/util/ArrayList" = some m.cls := findClass_of_methodNamed Bd.named
  have hnm := (name_of_methodNamed Bd.named Bd.method).1
  have X0 : Stand p l e ({ frames := 3, cells := 0, slots := 0, locals := 36 } : Room) s m #[(.ref b151)] below meth c s₁ [] 0 0 := Stand.of_body Bd
  have e0 : s₁.heap = h0 := by rw [← hh, Bd.state]; rfl
  have N0 := Fr.nil n0
  refine Goes.out (Goes.by (fun tz kz => castTop (ef3_R m b151) kz) ?_)
  show Goes p e below (s₁.setTop (mkF m 0 #[rv b151] [])) _
  refine Goes.by (fun _ kz => XS.aloadN X0.here hx rfl (hb hby d3_0) rfl rfl kz) ?_
  obtain ⟨_, _, ⟨T162, L162, k162, n162⟩, -, X162, ⟨Lc162, hQ162, l162, y162, z162⟩, st162⟩ := X0.specialBack hx (y := (⟨"java/util/AbstractList", "<init>", "()V"⟩ : MethodName)) rfl hown (mvT hZ (hw _ (List.mem_of_getElem? (i := 15) rfl))) (mvT hZ (hw _ (List.mem_of_getElem? (i := 16) rfl))) (mvT hZ (hw _ (List.mem_of_getElem? (i := 20) rfl))) (by decide) (backOf (W := 0) (r4_153 l Z a0 hw [] h0 n0 Z0 b151 u152_7 u152_8 u152_9 g_b151) hZ (hw _ (List.mem_of_getElem? (i := 20) rfl)) (hw _ (List.mem_of_getElem? (i := 19) rfl)) (by decide) (by decide)) (g := (mkF m 1 #[rv b151] [(.ref b151)])) rfl (by rw [hml]; rfl) (Steps.refl _) (a := b151) (argsL := []) (rest := []) (lenOf pd0 rfl) rfl (by show 2 * 0 + _ ≤ _; exact Nat.le_of_eq rfl) (hb hby d3_1) (fun _ _ => ⟨rfl, e0, (by decide : 0 + 0 ≤ _), (by decide : 0 + 0 ≤ _)⟩)
  dsimp only [Pt.U, Pt.locs, Pt.cells, Pt.slots] at X162 l162 y162 z162 st162 hQ162
  subst l162 y162 z162
  obtain ⟨rfl, Nq162, Kq162, fq162_0, fq162_1⟩ := hQ162
  have K162 : Keep h0 T162.heap [b151] := Keep.trans (Keep.refl h0 [b151]) Kq162 (allS (Or.inl (List.mem_of_getElem? (i := 0) rfl)) all0)
  have Z162 : n0 ≤ T162.heap.size := Nat.le_trans Z0 Kq162.1
  have N162 := Fr.app N0 Nq162
  refine Goes.tr st162 ?_
  refine Goes.by (fun _ kz => XS.aloadN X162.here hx rfl (hb hby d3_4) rfl rfl kz) ?_
  have f163 := (own_staKeep u152_0 Kq162 (allS (own_nsE u152_7) all0))
  obtain ⟨T164, X164, e164, st164⟩ := getS2 X162 hx hZ hown (host := "") (Or.inl (hw _ (List.mem_of_getElem? (i := 30) rfl))) Via.refl rfl f163 (g := (mkF m 5 #[rv b151] [(.ref b151)])) rfl (hb hby d3_5)
  refine Goes.by st164 ?_
  have f165 := (u152_7.keep Kq162)
  obtain ⟨T166, h166, X166, e166, W166, st166⟩ := putF X164 hx hZ hown (host := "") (Or.inl (hw _ (List.mem_of_getElem? (i := 31) rfl))) Via.refl e164 fq162_1 f165 (Or.inl (hw _ (List.mem_of_getElem? (i := 32) rfl))) (hw _ (List.mem_of_getElem? (i := 10) rfl)) (ty := (.array (.object "java/lang/Object"))) (by decide) rfl rfl (g := (mkF m 8 #[rv b151] [(.ref q1), (.ref b151)])) rfl rfl (hb hby d3_8)
  have Fw166 := Fld.same W166 fq162_1
  have K166 : Keep h0 h166 [b151] := Keep.wr K162 W166 (Or.inl (List.mem_of_getElem? (i := 0) rfl))
  have Z166 : n0 ≤ h166.size := Nat.le_trans Z162 (Keep.of_wr W166).1
  have N166 := Fr.snoc X166 N162 g_b151
  refine Goes.by st166 ?_
  show Goes p e below (T166.setTop (mkF m 11 #[rv b151] [])) _
  have f167 := (Fld.other W166 fq162_0 (Or.inr (slot_ne (Or.inl (hw _ (List.mem_of_getElem? (i := 29) rfl))) (Or.inl (hw _ (List.mem_of_getElem? (i := 32) rfl))) (by decide) (t := .int) (t' := (.array (.object "java/lang/Object"))) (by decide) (by decide))))
  obtain ⟨fs, hr, hrun, hended, hW, hsame⟩ := X166.leave (v := none) (fun _ => rfl)
  exact ⟨_, _, X166.returnOut hx Bd.returns (hb hby d3_11) hr, hrun, hended, _, _, rfl, (by rw [show (T166.setFrames fs).heap = h166 from e166]; exact ⟨rfl, N166, K166, f167, Fw166⟩), ⟨_, rfl⟩, hW, hsame.mono (by decide) (by decide)⟩
def Q_r9_187 (Z : State) (b151 : Addr) (b183 : Addr) (h0 : Heap) (n0 : Nat) (v : Option Value) (h : Heap) (L : List Loc) : Prop := (v = none ∧ Fr n0 L ∧ Keep h0 h [b183] ∧ Fld Z h b183 "java/util/Collections$UnmodifiableCollection" "c" "Ljava/util/Collection;" (.ref b151) ∧ Fld Z h b183 "java/util/Collections$UnmodifiableList" "list" "Ljava/util/List;" .null)
set_option maxRecDepth 65536 in
set_option maxHeartbeats 40000000 in
theorem r9_187 (l : Launch) (Z : State) (a0 : Array Value) (hw : ∀ d ∈ tables_1, d.before a0 Z = true) (ws : List Jvm.Cond) (h0 : Heap) (n0 : Nat) (Z0 : n0 ≤ h0.size) (b151 : Addr) (b183 : Addr) (u188_10 : Exa Z h0 b183 "java/util/Collections$UnmodifiableRandomAccessList") (u188_11 : Fld Z h0 b183 "java/util/Collections$UnmodifiableCollection" "c" "Ljava/util/Collection;" .null) (u188_12 : Fld Z h0 b183 "java/util/Collections$UnmodifiableList" "list" "Ljava/util/List;" .null) (g_b183 : n0 ≤ b183) :
    MetFree l (⟨"java/util/Collections$UnmodifiableCollection", "<init>", "(Ljava/util/Collection;)V"⟩ : MethodName) (head1 (Jvm.Cond.code (⟨"java/util/Collections$UnmodifiableCollection", "<init>", "(Ljava/util/Collection;)V"⟩ : MethodName) jdk_119_method_1_code 2 none :: ws) ({ frames := 1, cells := 0, slots := 0, locals := 12 } : Room)) (fun a U => a = #[(.ref b183), (.ref b151)] ∧ Z.Warmed39 U.vm ∧ U.heap = h0) (fun _ _ _ _ _ => True) (fun _ U o U' => ∃ v L, o = .returned v ∧ Q_r9_187 Z b151 b183 h0 n0 v U'.heap L ∧ FrameEnd U o U' L ({ frames := 1, cells := 0, slots := 0, locals := 12 } : Room).cells ({ frames := 1, cells := 0, slots := 0, locals := 12 } : Room).slots) := by
  refine MetFree.of_bodySF (plainFor_of_name pn3) hisR ?_
  intro p e s m args below meth c s₁ Bd hml0 hP hK
  obtain ⟨rfl, hZ, hh⟩ := hP
  have hx := Bd.exec
  have hby := Bd.bytes
  have hml : c.maxLocals = 2 := hml0
  have hown : s.vm.findClass "java/util/Collections$UnmodifiableCollection" = some m.cls := findClass_of_methodNamed Bd.named
  have hnm := (name_of_methodNamed Bd.named Bd.method).1
  have X0 : Stand p l e ({ frames := 1, cells := 0, slots := 0, locals := 12 } : Room) s m #[(.ref b183), (.ref b151)] below meth c s₁ [] 0 0 := Stand.of_body Bd
  have e0 : s₁.heap = h0 := by rw [← hh, Bd.state]; rfl
  have N0 := Fr.nil n0
  refine Goes.out (Goes.by (fun tz kz => castTop (ef9_RR m b183 b151) kz) ?_)
  show Goes p e below (s₁.setTop (mkF m 0 #[rv b183, rv b151] [])) _
  refine Goes.by (fun _ kz => XS.aloadN X0.here hx rfl (hb hby d9_0) rfl rfl kz) ?_
  obtain ⟨T190, X190, e190, st190⟩ := initO X0 hx hZ hown (hw _ (List.mem_of_getElem? (i := 73) rfl)) (hw _ (List.mem_of_getElem? (i := 7) rfl)) (hw _ (List.mem_of_getElem? (i := 8) rfl)) e0 (g := (mkF m 1 #[rv b183, rv b151] [(.ref b183)])) rfl (by rw [hml]; rfl) rfl (hb hby d9_1) (by decide) (W := 0) (by show 2 * 0 + _ ≤ _; exact Nat.le_of_eq rfl) (by decide)
  refine Goes.by st190 ?_
  refine Goes.by (fun _ kz => XS.aloadN X190.here hx rfl (hb hby d9_4) rfl rfl (XS.ifnonnullYes X190.here hx rfl (pc0 := 5) (pc' := 16) rfl (hb hby d9_5) rfl (by decide) (by decide) (XS.aloadN X190.here hx rfl (hb hby d9_16) rfl rfl kz))) ?_
  show Goes p e below (T190.setTop (mkF m 17 #[rv b183, rv b151] [(.ref b183)])) _
  refine Goes.by (fun _ kz => XS.aloadN X190.here hx rfl (hb hby d9_17) rfl rfl kz) ?_
  obtain ⟨T191, h191, X191, e191, W191, st191⟩ := putF X190 hx hZ hown (host := "") (Or.inl (hw _ (List.mem_of_getElem? (i := 74) rfl))) Via.refl e190 u188_11 u188_10 (Or.inr ⟨(hw _ (List.mem_of_getElem? (i := 75) rfl)), rfl, hnm⟩) (hw _ (List.mem_of_getElem? (i := 56) rfl)) (ty := (.object "java/util/Collection")) (by decide) rfl rfl (g := (mkF m 18 #[rv b183, rv b151] [(.ref b151), (.ref b183)])) rfl rfl (hb hby d9_18)
  have Fw191 := Fld.same W191 u188_11
  have K191 : Keep h0 h191 [b183] := Keep.wr (Keep.refl h0 [b183]) W191 (Or.inl (List.mem_of_getElem? (i := 0) rfl))
  have Z191 : n0 ≤ h191.size := Nat.le_trans Z0 (Keep.of_wr W191).1
  have N191 := Fr.snoc X191 N0 g_b183
  refine Goes.by st191 ?_
  show Goes p e below (T191.setTop (mkF m 21 #[rv b183, rv b151] [])) _
  have f192 := (Fld.other W191 u188_12 (Or.inr (slot_ne (Or.inr (hw _ (List.mem_of_getElem? (i := 77) rfl))) (Or.inr (hw _ (List.mem_of_getElem? (i := 75) rfl))) (by decide) (t := (.object "java/util/List")) (t' := (.object "java/util/Collection")) (by decide) (by decide))))
  obtain ⟨fs, hr, hrun, hended, hW, hsame⟩ := X191.leave (v := none) (fun _ => rfl)
  exact ⟨_, _, X191.returnOut hx Bd.returns (hb hby d9_21) hr, hrun, hended, _, _, rfl, (by rw [show (T191.setFrames fs).heap = h191 from e191]; exact ⟨rfl, N191, K191, Fw191, f192⟩), ⟨_, rfl⟩, hW, hsame.mono (by decide) (by decide)⟩
def Q_r8_185 (Z : State) (b151 : Addr) (b183 : Addr) (h0 : Heap) (n0 : Nat) (v : Option Value) (h : Heap) (L : List Loc) : Prop := (v = none ∧ Fr n0 L ∧ Keep h0 h [b183] ∧ Fld Z h b183 "java/util/Collections$UnmodifiableCollection" "c" "Ljava/util/Collection;" (.ref b151) ∧ Fld Z h b183 "java/util/Collections$UnmodifiableList" "list" "Ljava/util/List;" (.ref b151))
set_option maxRecDepth 65536 in
set_option maxHeartbeats 40000000 in
theorem r8_185 (l : Launch) (Z : State) (a0 : Array Value) (hw : ∀ d ∈ tables_1, d.before a0 Z = true) (ws : List Jvm.Cond) (h0 : Heap) (n0 : Nat) (Z0 : n0 ≤ h0.size) (b151 : Addr) (b183 : Addr) (u186_10 : Exa Z h0 b183 "java/util/Collections$UnmodifiableRandomAccessList") (u186_11 : Fld Z h0 b183 "java/util/Collections$UnmodifiableCollection" "c" "Ljava/util/Collection;" .null) (u186_12 : Fld Z h0 b183 "java/util/Collections$UnmodifiableList" "list" "Ljava/util/List;" .null) (g_b183 : n0 ≤ b183) :
    MetFree l (⟨"java/util/Collections$UnmodifiableList", "<init>", "(Ljava/util/List;)V"⟩ : MethodName) (head1 (Jvm.Cond.code (⟨"java/util/Collections$UnmodifiableList", "<init>", "(Ljava/util/List;)V"⟩ : MethodName) jdk_120_method_1_code 2 none :: ws) ({ frames := 2, cells := 0, slots := 0, locals := 25 } : Room)) (fun a U => a = #[(.ref b183), (.ref b151)] ∧ Z.Warmed39 U.vm ∧ U.heap = h0) (fun _ _ _ _ _ => True) (fun _ U o U' => ∃ v L, o = .returned v ∧ Q_r8_185 Z b151 b183 h0 n0 v U'.heap L ∧ FrameEnd U o U' L ({ frames := 2, cells := 0, slots := 0, locals := 25 } : Room).cells ({ frames := 2, cells := 0, slots := 0, locals := 25 } : Room).slots) := by
  refine MetFree.of_bodySF (plainFor_of_name pn4) hisR ?_
  intro p e s m args below meth c s₁ Bd hml0 hP hK
  obtain ⟨rfl, hZ, hh⟩ := hP
  have hx := Bd.exec
  have hby := Bd.bytes
  have hml : c.maxLocals = 2 := hml0
  have hown : s.vm.findClass "java/util/Collections$UnmodifiableList" = some m.cls := findClass_of_methodNamed Bd.named
  have hnm := (name_of_methodNamed Bd.named Bd.method).1
  have X0 : Stand p l e ({ frames := 2, cells := 0, slots := 0, locals := 25 } : Room) s m #[(.ref b183), (.ref b151)] below meth c s₁ [] 0 0 := Stand.of_body Bd
  have e0 : s₁.heap = h0 := by rw [← hh, Bd.state]; rfl
  have N0 := Fr.nil n0
  refine Goes.out (Goes.by (fun tz kz => castTop (ef8_RR m b183 b151) kz) ?_)
  show Goes p e below (s₁.setTop (mkF m 0 #[rv b183, rv b151] [])) _
  refine Goes.by (fun _ kz => XS.aloadN X0.here hx rfl (hb hby d8_0) rfl rfl (XS.aloadN X0.here hx rfl (hb hby d8_1) rfl rfl kz)) ?_
  obtain ⟨_, _, ⟨T193, L193, k193, n193⟩, -, X193, ⟨Lc193, hQ193, l193, y193, z193⟩, st193⟩ := X0.specialBack hx (y := (⟨"java/util/Collections$UnmodifiableCollection", "<init>", "(Ljava/util/Collection;)V"⟩ : MethodName)) rfl hown (mvT hZ (hw _ (List.mem_of_getElem? (i := 67) rfl))) (mvT hZ (hw _ (List.mem_of_getElem? (i := 68) rfl))) (mvT hZ (hw _ (List.mem_of_getElem? (i := 72) rfl))) (by decide) (backOf (W := 0) (r9_187 l Z a0 hw [] h0 n0 Z0 b151 b183 u186_10 u186_11 u186_12 g_b183) hZ (hw _ (List.mem_of_getElem? (i := 72) rfl)) (hw _ (List.mem_of_getElem? (i := 71) rfl)) (by decide) (by decide)) (g := (mkF m 2 #[rv b183, rv b151] [(.ref b151), (.ref b183)])) rfl (by rw [hml]; rfl) (Steps.refl _) (a := b183) (argsL := [(.ref b151)]) (rest := []) (lenOf pd1 rfl) rfl (by show 2 * 0 + _ ≤ _; exact Nat.le_of_eq rfl) (hb hby d8_2) (fun _ _ => ⟨rfl, e0, (by decide : 0 + 0 ≤ _), (by decide : 0 + 0 ≤ _)⟩)
  dsimp only [Pt.U, Pt.locs, Pt.cells, Pt.slots] at X193 l193 y193 z193 st193 hQ193
  subst l193 y193 z193
  obtain ⟨rfl, Nq193, Kq193, fq193_0, fq193_1⟩ := hQ193
  have K193 : Keep h0 T193.heap [b183] := Keep.trans (Keep.refl h0 [b183]) Kq193 (allS (Or.inl (List.mem_of_getElem? (i := 0) rfl)) all0)
  have Z193 : n0 ≤ T193.heap.size := Nat.le_trans Z0 Kq193.1
  have N193 := Fr.app N0 Nq193
  refine Goes.tr st193 ?_
  refine Goes.by (fun _ kz => XS.aloadN X193.here hx rfl (hb hby d8_5) rfl rfl (XS.aloadN X193.here hx rfl (hb hby d8_6) rfl rfl kz)) ?_
  have f194 := (u186_10.keep Kq193)
  obtain ⟨T195, h195, X195, e195, W195, st195⟩ := putF X193 hx hZ hown (host := "") (Or.inl (hw _ (List.mem_of_getElem? (i := 76) rfl))) Via.refl rfl fq193_1 f194 (Or.inr ⟨(hw _ (List.mem_of_getElem? (i := 77) rfl)), rfl, hnm⟩) (hw _ (List.mem_of_getElem? (i := 56) rfl)) (ty := (.object "java/util/List")) (by decide) rfl rfl (g := (mkF m 7 #[rv b183, rv b151] [(.ref b151), (.ref b183)])) rfl rfl (hb hby d8_7)
  have Fw195 := Fld.same W195 fq193_1
  have K195 : Keep h0 h195 [b183] := Keep.wr K193 W195 (Or.inl (List.mem_of_getElem? (i := 0) rfl))
  have Z195 : n0 ≤ h195.size := Nat.le_trans Z193 (Keep.of_wr W195).1
  have N195 := Fr.snoc X195 N193 g_b183
  refine Goes.by st195 ?_
  show Goes p e below (T195.setTop (mkF m 10 #[rv b183, rv b151] [])) _
  have f196 := (Fld.other W195 fq193_0 (Or.inr (slot_ne (Or.inr (hw _ (List.mem_of_getElem? (i := 75) rfl))) (Or.inr (hw _ (List.mem_of_getElem? (i := 77) rfl))) (by decide) (t := (.object "java/util/Collection")) (t' := (.object "java/util/List")) (by decide) (by decide))))
  obtain ⟨fs, hr, hrun, hended, hW, hsame⟩ := X195.leave (v := none) (fun _ => rfl)
  exact ⟨_, _, X195.returnOut hx Bd.returns (hb hby d8_10) hr, hrun, hended, _, _, rfl, (by rw [show (T195.setFrames fs).heap = h195 from e195]; exact ⟨rfl, N195, K195, f196, Fw195⟩), ⟨_, rfl⟩, hW, hsame.mono (by decide) (by decide)⟩
def Q_r7_183 (Z : State) (b151 : Addr) (b183 : Addr) (h0 : Heap) (n0 : Nat) (v : Option Value) (h : Heap) (L : List Loc) : Prop := (v = none ∧ Fr n0 L ∧ Keep h0 h [b183] ∧ Fld Z h b183 "java/util/Collections$UnmodifiableCollection" "c" "Ljava/util/Collection;" (.ref b151) ∧ Fld Z h b183 "java/util/Collections$UnmodifiableList" "list" "Ljava/util/List;" (.ref b151))
set_option maxRecDepth 65536 in
set_option maxHeartbeats 40000000 in
theorem r7_183 (l : Launch) (Z : State) (a0 : Array Value) (hw : ∀ d ∈ tables_1, d.before a0 Z = true) (ws : List Jvm.Cond) (h0 : Heap) (n0 : Nat) (Z0 : n0 ≤ h0.size) (b151 : Addr) (b183 : Addr) (u184_10 : Exa Z h0 b183 "java/util/Collections$UnmodifiableRandomAccessList") (u184_11 : Fld Z h0 b183 "java/util/Collections$UnmodifiableCollection" "c" "Ljava/util/Collection;" .null) (u184_12 : Fld Z h0 b183 "java/util/Collections$UnmodifiableList" "list" "Ljava/util/List;" .null) (g_b183 : n0 ≤ b183) :
    MetFree l (⟨"java/util/Collections$UnmodifiableRandomAccessList", "<init>", "(Ljava/util/List;)V"⟩ : MethodName) (head1 (Jvm.Cond.code (⟨"java/util/Collections$UnmodifiableRandomAccessList", "<init>", "(Ljava/util/List;)V"⟩ : MethodName) jdk_121_method_1_code 2 none :: ws) ({ frames := 3, cells := 0, slots := 0, locals := 38 } : Room)) (fun a U => a = #[(.ref b183), (.ref b151)] ∧ Z.Warmed39 U.vm ∧ U.heap = h0) (fun _ _ _ _ _ => True) (fun _ U o U' => ∃ v L, o = .returned v ∧ Q_r7_183 Z b151 b183 h0 n0 v U'.heap L ∧ FrameEnd U o U' L ({ frames := 3, cells := 0, slots := 0, locals := 38 } : Room).cells ({ frames := 3, cells := 0, slots := 0, locals := 38 } : Room).slots) := by
  refine MetFree.of_bodySF (plainFor_of_name pn5) hisR ?_
  intro p e s m args below meth c s₁ Bd hml0 hP hK
  obtain ⟨rfl, hZ, hh⟩ := hP
  have hx := Bd.exec
  have hby := Bd.bytes
  have hml : c.maxLocals = 2 := hml0
  have hown : s.vm.findClass "java/util/Collections$UnmodifiableRandomAccessList" = some m.cls := findClass_of_methodNamed Bd.named
  have hnm := (name_of_methodNamed Bd.named Bd.method).1
  have X0 : Stand p l e ({ frames := 3, cells := 0, slots := 0, locals := 38 } : Room) s m #[(.ref b183), (.ref b151)] below meth c s₁ [] 0 0 := Stand.of_body Bd
  have e0 : s₁.heap = h0 := by rw [← hh, Bd.state]; rfl
  have N0 := Fr.nil n0
  refine Goes.out (Goes.by (fun tz kz => castTop (ef7_RR m b183 b151) kz) ?_)
  show Goes p e below (s₁.setTop (mkF m 0 #[rv b183, rv b151] [])) _
  refine Goes.by (fun _ kz => XS.aloadN X0.here hx rfl (hb hby d7_0) rfl rfl (XS.aloadN X0.here hx rfl (hb hby d7_1) rfl rfl kz)) ?_
  obtain ⟨_, _, ⟨T197, L197, k197, n197⟩, -, X197, ⟨Lc197, hQ197, l197, y197, z197⟩, st197⟩ := X0.specialBack hx (y := (⟨"java/util/Collections$UnmodifiableList", "<init>", "(Ljava/util/List;)V"⟩ : MethodName)) rfl hown (mvT hZ (hw _ (List.mem_of_getElem? (i := 61) rfl))) (mvT hZ (hw _ (List.mem_of_getElem? (i := 62) rfl))) (mvT hZ (hw _ (List.mem_of_getElem? (i := 66) rfl))) (by decide) (backOf (W := 0) (r8_185 l Z a0 hw [] h0 n0 Z0 b151 b183 u184_10 u184_11 u184_12 g_b183) hZ (hw _ (List.mem_of_getElem? (i := 66) rfl)) (hw _ (List.mem_of_getElem? (i := 65) rfl)) (by decide) (by decide)) (g := (mkF m 2 #[rv b183, rv b151] [(.ref b151), (.ref b183)])) rfl (by rw [hml]; rfl) (Steps.refl _) (a := b183) (argsL := [(.ref b151)]) (rest := []) (lenOf pd2 rfl) rfl (by show 2 * 0 + _ ≤ _; exact Nat.le_of_eq rfl) (hb hby d7_2) (fun _ _ => ⟨rfl, e0, (by decide : 0 + 0 ≤ _), (by decide : 0 + 0 ≤ _)⟩)
  dsimp only [Pt.U, Pt.locs, Pt.cells, Pt.slots] at X197 l197 y197 z197 st197 hQ197
  subst l197 y197 z197
  obtain ⟨rfl, Nq197, Kq197, fq197_0, fq197_1⟩ := hQ197
  have K197 : Keep h0 T197.heap [b183] := Keep.trans (Keep.refl h0 [b183]) Kq197 (allS (Or.inl (List.mem_of_getElem? (i := 0) rfl)) all0)
  have Z197 : n0 ≤ T197.heap.size := Nat.le_trans Z0 Kq197.1
  have N197 := Fr.app N0 Nq197
  refine Goes.tr st197 ?_
  show Goes p e below (T197.setTop (mkF m 5 #[rv b183, rv b151] [])) _
  obtain ⟨fs, hr, hrun, hended, hW, hsame⟩ := X197.leave (v := none) (fun _ => rfl)
  exact ⟨_, _, X197.returnOut hx Bd.returns (hb hby d7_5) hr, hrun, hended, _, _, rfl, ⟨rfl, N197, K197, fq197_0, fq197_1⟩, ⟨_, rfl⟩, hW, hsame.mono (by decide) (by decide)⟩
def Q_r6_173 (Z : State) (mA : Addr) (mL : Addr) (mR : Addr) (b147 : Addr) (b151 : Addr) (h0 : Heap) (n0 : Nat) (v : Option Value) (h : Heap) (L : List Loc) : Prop := (v = some (.ref b151) ∧ Fr n0 L ∧ h = h0 ∧ mA = mL) ∨ (v = some (.ref b151) ∧ Fr n0 L ∧ h = h0 ∧ ¬ (mA = mL) ∧ mA = mR) ∨ (∃ (b183 : Addr), v = some (.ref b183) ∧ Fr n0 L ∧ Keep h0 h [] ∧ h0.size ≤ b183 ∧ Exa Z h b183 "java/util/Collections$UnmodifiableRandomAccessList" ∧ Fld Z h b183 "java/util/Collections$UnmodifiableCollection" "c" "Ljava/util/Collection;" (.ref b151) ∧ Fld Z h b183 "java/util/Collections$UnmodifiableList" "list" "Ljava/util/List;" (.ref b151) ∧ ¬ (mA = mL) ∧ ¬ (mA = mR))
set_option maxRecDepth 65536 in
set_option maxHeartbeats 40000000 in
theorem r6_173 (l : Launch) (Z : State) (a0 : Array Value) (hw : ∀ d ∈ tables_1, d.before a0 Z = true) (ws : List Jvm.Cond) (h0 : Heap) (n0 : Nat) (Z0 : n0 ≤ h0.size) (mA : Addr) (mL : Addr) (mR : Addr) (b147 : Addr) (b151 : Addr) (u174_2 : Exa Z h0 b147 "com/example/entail/entail/model/EntrySettings") (u174_7 : Exa Z h0 b151 "java/util/ArrayList") (MA : OwnMir Z "java/util/ArrayList" mA) (ML : OwnMir Z "java/util/Collections$UnmodifiableList" mL) (MR : OwnMir Z "java/util/Collections$UnmodifiableRandomAccessList" mR) :
    MetFree l (⟨"java/util/Collections", "unmodifiableList", "(Ljava/util/List;)Ljava/util/List;"⟩ : MethodName) (head1 (Jvm.Cond.code (⟨"java/util/Collections", "unmodifiableList", "(Ljava/util/List;)Ljava/util/List;"⟩ : MethodName) jdk_79_method_35_code 1 (some (.object "java/util/List")) :: ws) ({ frames := 4, cells := 1, slots := 2, locals := 64 } : Room)) (fun a U => a = #[(.ref b151)] ∧ Z.Warmed39 U.vm ∧ U.heap = h0) (fun _ _ _ _ _ => True) (fun _ U o U' => ∃ v L, o = .returned v ∧ Q_r6_173 Z mA mL mR b147 b151 h0 n0 v U'.heap L ∧ FrameEnd U o U' L ({ frames := 4, cells := 1, slots := 2, locals := 64 } : Room).cells ({ frames := 4, cells := 1, slots := 2, locals := 64 } : Room).slots) := by
  refine MetFree.of_bodySF (plainFor_of_name pn6) hisR ?_
  intro p e s m args below meth c s₁ Bd hml0 hP hK
  obtain ⟨rfl, hZ, hh⟩ := hP
  have hx := Bd.exec
  have hby := Bd.bytes
  have hml : c.maxLocals = 1 := hml0
  have hown : s.vm.findClass "java/util/Collections" = some m.cls := findClass_of_methodNamed Bd.named
  have hnm := (name_of_methodNamed Bd.named Bd.method).1
  have X0 : Stand p l e ({ frames := 4, cells := 1, slots := 2, locals := 64 } : Room) s m #[(.ref b151)] below meth c s₁ [] 0 0 := Stand.of_body Bd
  have e0 : s₁.heap = h0 := by rw [← hh, Bd.state]; rfl
  have N0 := Fr.nil n0
  refine Goes.out (Goes.by (fun tz kz => castTop (ef6_R m b151) kz) ?_)
  show Goes p e below (s₁.setTop (mkF m 0 #[rv b151] [])) _
  refine Goes.by (fun _ kz => XS.aloadN X0.here hx rfl (hb hby d6_0) rfl rfl kz) ?_
  obtain ⟨cB176, kB176, qa176, qb176, qc176, qd176⟩ := own_mirOf hZ e0 u174_7 MA
  obtain ⟨vm176, X176, st176⟩ := X0.getClassOfI hx (xi := (⟨"java/util/List", "getClass", "()Ljava/lang/Class;"⟩ : MethodName)) hown (mvT hZ (hw _ (List.mem_of_getElem? (i := 39) rfl))) (mvT hZ (hw _ (List.mem_of_getElem? (i := 40) rfl))) (Jvm.Free.ULB.iface_rides hZ.alike (hw _ (List.mem_of_getElem? (i := 41) rfl))) (mvT hZ (hw _ (List.mem_of_getElem? (i := 42) rfl))) (mvT hZ (hw _ (List.mem_of_getElem? (i := 43) rfl))) (mvT hZ (hw _ (List.mem_of_getElem? (i := 44) rfl))) (mvT hZ (hw _ (List.mem_of_getElem? (i := 45) rfl))) (mvT hZ (hw _ (List.mem_of_getElem? (i := 46) rfl))) (mvT hZ (hw _ (List.mem_of_getElem? (i := 47) rfl))) (by decide) (by decide) rfl rfl qa176 qb176 qc176 qd176 (g := (mkF m 1 #[rv b151] [(.ref b151)])) rfl (by rw [hml]; rfl) rfl (hb hby d6_1) (by decide) (by show 2 * 0 + 0 + (nativeFrameWords "java/lang/Object" "getClass" 1 + 11) ≤ _; decide)
  have e176 : (s₁.setVm vm176).heap = h0 := e0
  refine Goes.by st176 ?_
  obtain ⟨vm177, X177, st177⟩ := X176.ldcMirror hx hown (mvT hZ (hw _ (List.mem_of_getElem? (i := 49) rfl))) (own_mir hZ ML) (g := (mkF m 6 #[rv b151] [(.ref mA)])) rfl (hb hby d6_6)
  have e177 : ((s₁.setVm vm176).setVm vm177).heap = h0 := e176
  refine Goes.by st177 ?_
  show Goes p e below (((s₁.setVm vm176).setVm vm177).setTop (mkF m 8 #[rv b151] [(.ref mL), (.ref mA)])) _
  by_cases hc178 : mA = mL
  · refine Goes.by (fun _ kz => Jvm.RoadKit.acmp (g := (mkF m 8 #[rv b151] [(.ref mL), (.ref mA)])) X177 hx rfl rfl rfl (pc0 := 8) (pc' := 22) (same := true) rfl (hb hby d6_8) rfl (decide_eq_true (congrArg Value.ref hc178)) (by decide) (by decide) (XS.aloadN X177.here hx rfl (hb hby d6_22) rfl rfl kz)) ?_
    show Goes p e below (((s₁.setVm vm176).setVm vm177).setTop (mkF m 23 #[rv b151] [(.ref b151)])) _
    obtain ⟨fs, hr, hrun, hended, hW, hsame⟩ := X177.leave (v := some (.ref b151)) (fun h => by rw [Bd.returns] at h; cases h)
    exact ⟨_, _, retOut X177 hx (t := (.object "java/util/List")) Bd.returns rfl (Or.inr (Or.inr (Or.inr (Or.inr ⟨rfl, rfl, rfl⟩)))) (hb hby d6_23) hr, hrun, hended, _, _, rfl, (Or.inl ⟨rfl, N0, e177, hc178⟩), ⟨_, rfl⟩, hW, hsame.mono (by decide) (by decide)⟩
  · refine Goes.by (fun _ kz => Jvm.RoadKit.acmp (g := (mkF m 8 #[rv b151] [(.ref mL), (.ref mA)])) X177 hx rfl rfl rfl (pc0 := 8) (pc' := 11) (same := false) rfl (hb hby d6_8) rfl (decide_eq_false fun q => hc178 (Value.ref.inj q)) (by decide) (by decide) (XS.aloadN X177.here hx rfl (hb hby d6_11) rfl rfl kz)) ?_
    obtain ⟨cB179, kB179, qa179, qb179, qc179, qd179⟩ := own_mirOf hZ e177 u174_7 MA
    obtain ⟨vm179, X179, st179⟩ := X177.getClassOfI hx (xi := (⟨"java/util/List", "getClass", "()Ljava/lang/Class;"⟩ : MethodName)) hown (mvT hZ (hw _ (List.mem_of_getElem? (i := 51) rfl))) (mvT hZ (hw _ (List.mem_of_getElem? (i := 40) rfl))) (Jvm.Free.ULB.iface_rides hZ.alike (hw _ (List.mem_of_getElem? (i := 41) rfl))) (mvT hZ (hw _ (List.mem_of_getElem? (i := 42) rfl))) (mvT hZ (hw _ (List.mem_of_getElem? (i := 43) rfl))) (mvT hZ (hw _ (List.mem_of_getElem? (i := 44) rfl))) (mvT hZ (hw _ (List.mem_of_getElem? (i := 45) rfl))) (mvT hZ (hw _ (List.mem_of_getElem? (i := 46) rfl))) (mvT hZ (hw _ (List.mem_of_getElem? (i := 47) rfl))) (by decide) (by decide) rfl rfl qa179 qb179 qc179 qd179 (g := (mkF m 12 #[rv b151] [(.ref b151)])) rfl (by rw [hml]; rfl) rfl (hb hby d6_12) (by decide) (by show 2 * 0 + 0 + (nativeFrameWords "java/lang/Object" "getClass" 1 + 11) ≤ _; decide)
    have e179 : (((s₁.setVm vm176).setVm vm177).setVm vm179).heap = h0 := e177
    refine Goes.by st179 ?_
    obtain ⟨vm180, X180, st180⟩ := X179.ldcMirror hx hown (mvT hZ (hw _ (List.mem_of_getElem? (i := 52) rfl))) (own_mir hZ MR) (g := (mkF m 17 #[rv b151] [(.ref mA)])) rfl (hb hby d6_17)
    have e180 : ((((s₁.setVm vm176).setVm vm177).setVm vm179).setVm vm180).heap = h0 := e179
    refine Goes.by st180 ?_
    show Goes p e below (((((s₁.setVm vm176).setVm vm177).setVm vm179).setVm vm180).setTop (mkF m 19 #[rv b151] [(.ref mR), (.ref mA)])) _
    by_cases hc181 : mA = mR
    · refine Goes.by (fun _ kz => Jvm.RoadKit.acmp (g := (mkF m 19 #[rv b151] [(.ref mR), (.ref mA)])) X180 hx rfl rfl rfl (pc0 := 19) (pc' := 22) (same := true) rfl (hb hby d6_19) rfl (decide_eq_true (congrArg Value.ref hc181)) (by decide) (by decide) (XS.aloadN X180.here hx rfl (hb hby d6_22) rfl rfl kz)) ?_
      show Goes p e below (((((s₁.setVm vm176).setVm vm177).setVm vm179).setVm vm180).setTop (mkF m 23 #[rv b151] [(.ref b151)])) _
      obtain ⟨fs, hr, hrun, hended, hW, hsame⟩ := X180.leave (v := some (.ref b151)) (fun h => by rw [Bd.returns] at h; cases h)
      exact ⟨_, _, retOut X180 hx (t := (.object "java/util/List")) Bd.returns rfl (Or.inr (Or.inr (Or.inr (Or.inr ⟨rfl, rfl, rfl⟩)))) (hb hby d6_23) hr, hrun, hended, _, _, rfl, (Or.inr (Or.inl ⟨rfl, N0, e180, hc178, hc181⟩)), ⟨_, rfl⟩, hW, hsame.mono (by decide) (by decide)⟩
    · refine Goes.by (fun _ kz => Jvm.RoadKit.acmp (g := (mkF m 19 #[rv b151] [(.ref mR), (.ref mA)])) X180 hx rfl rfl rfl (pc0 := 19) (pc' := 24) (same := false) rfl (hb hby d6_19) rfl (decide_eq_false fun q => hc181 (Value.ref.inj q)) (by decide) (by decide) (XS.aloadN X180.here hx rfl (hb hby d6_24) rfl rfl kz)) ?_
      obtain ⟨T182, X182, e182, st182⟩ := instY X180 hx hZ hown (hw _ (List.mem_of_getElem? (i := 54) rfl)) e180 (Ins.of_exa u174_7 (hw _ (List.mem_of_getElem? (i := 55) rfl))) (g := (mkF m 25 #[rv b151] [(.ref b151)])) rfl rfl (hb hby d6_25)
      refine Goes.by st182 ?_
      refine Goes.by (fun _ kz => XS.ifNo X182.here hx rfl (hb hby d6_28) rfl ((if0 _ _).trans (feq (by decide : ¬ ((1 : Int32) = (0 : Int32)))).1) kz) ?_
      obtain ⟨T183, h183, X183, e183, E183, A183, D183, -, st183⟩ := newO X182 hx hZ hown (hw _ (List.mem_of_getElem? (i := 52) rfl)) (hw _ (List.mem_of_getElem? (i := 56) rfl)) (hw _ (List.mem_of_getElem? (i := 57) rfl)) e182 (g := (mkF m 31 #[rv b151] [])) rfl (hb hby d6_31) (by decide) (by decide)
      obtain ⟨b183, g183⟩ : ∃ z, z = h0.size := ⟨_, rfl⟩
      rw [← g183] at A183 D183 st183
      have ne183_b147 : b147 ≠ b183 := Nat.ne_of_lt (Nat.lt_of_lt_of_le u174_2.lt (Nat.le_of_eq g183.symm))
      have ne183_b151 : b151 ≠ b183 := Nat.ne_of_lt (Nat.lt_of_lt_of_le u174_7.lt (Nat.le_of_eq g183.symm))
      have g_b183 : n0 ≤ b183 := Nat.le_trans Z0 (Nat.le_of_eq g183.symm)
      have sz_b183 : h0.size ≤ b183 := Nat.le_of_eq g183.symm
      have F183_c : Fld Z h183 b183 "java/util/Collections$UnmodifiableCollection" "c" "Ljava/util/Collection;" .null := D183 (Or.inr (hw _ (List.mem_of_getElem? (i := 75) rfl))) (ty := (.object "java/util/Collection")) (by decide)
      have F183_list : Fld Z h183 b183 "java/util/Collections$UnmodifiableList" "list" "Ljava/util/List;" .null := D183 (Or.inr (hw _ (List.mem_of_getElem? (i := 77) rfl))) (ty := (.object "java/util/List")) (by decide)
      have K183 : Keep h0 h183 [] := Keep.ext (Keep.refl h0 []) E183
      have Z183 : n0 ≤ h183.size := Nat.le_trans Z0 E183.1
      refine Goes.by st183 ?_
      refine Goes.by (fun _ kz => XS.dup X183.here hx rfl (hb hby d6_34) rfl rfl (XS.aloadN X183.here hx rfl (hb hby d6_35) rfl rfl kz)) ?_
      obtain ⟨_, _, ⟨T198, L198, k198, n198⟩, -, X198, ⟨Lc198, hQ198, l198, y198, z198⟩, st198⟩ := X183.specialBack hx (y := (⟨"java/util/Collections$UnmodifiableRandomAccessList", "<init>", "(Ljava/util/List;)V"⟩ : MethodName)) rfl hown (mvT hZ (hw _ (List.mem_of_getElem? (i := 58) rfl))) (mvT hZ (hw _ (List.mem_of_getElem? (i := 59) rfl))) (mvT hZ (hw _ (List.mem_of_getElem? (i := 60) rfl))) (by decide) (backOf (W := 1) (r7_183 l Z a0 hw [] h183 n0 Z183 b151 b183 A183 F183_c F183_list g_b183) hZ (hw _ (List.mem_of_getElem? (i := 60) rfl)) (hw _ (List.mem_of_getElem? (i := 57) rfl)) (by decide) (by decide)) (g := (mkF m 36 #[rv b151] [(.ref b151), (.ref b183), (.ref b183)])) rfl (by rw [hml]; rfl) (Steps.refl _) (a := b183) (argsL := [(.ref b151)]) (rest := [(.ref b183)]) (lenOf pd2 rfl) rfl (by show 2 * 0 + _ ≤ _; exact Nat.le_of_eq rfl) (hb hby d6_36) (fun _ _ => ⟨rfl, e183, (by decide : 1 + 0 ≤ _), (by decide : 2 + 0 ≤ _)⟩)
      dsimp only [Pt.U, Pt.locs, Pt.cells, Pt.slots] at X198 l198 y198 z198 st198 hQ198
      subst l198 y198 z198
      obtain ⟨rfl, Nq198, Kq198, fq198_0, fq198_1⟩ := hQ198
      have K198 : Keep h0 T198.heap [] := Keep.trans K183 Kq198 (allS (Or.inr sz_b183) all0)
      have Z198 : n0 ≤ T198.heap.size := Nat.le_trans Z183 Kq198.1
      have N198 := Fr.app N0 Nq198
      refine Goes.tr st198 ?_
      refine Goes.by (fun _ kz => XS.goto X198.here hx rfl (pc0 := 39) (pc' := 50) rfl (hb hby d6_39) (by decide) (by decide) kz) ?_
      show Goes p e below (T198.setTop (mkF m 50 #[rv b151] [(.ref b183)])) _
      have f199 := (A183.keep Kq198)
      obtain ⟨fs, hr, hrun, hended, hW, hsame⟩ := X198.leave (v := some (.ref b183)) (fun h => by rw [Bd.returns] at h; cases h)
      exact ⟨_, _, retOut X198 hx (t := (.object "java/util/List")) Bd.returns rfl (Or.inr (Or.inr (Or.inr (Or.inr ⟨rfl, rfl, rfl⟩)))) (hb hby d6_50) hr, hrun, hended, _, _, rfl, (Or.inr (Or.inr ⟨b183, rfl, N198, K198, sz_b183, f199, fq198_0, fq198_1, hc178, hc181⟩)), ⟨_, rfl⟩, hW, hsame.mono (by decide) (by decide)⟩
def Q_r1_147 (Z : State) (mA : Addr) (mL : Addr) (mR : Addr) (q1 : Addr) (q2 : Addr) (b147 : Addr) (h0 : Heap) (n0 : Nat) (v : Option Value) (h : Heap) (L : List Loc) : Prop := (∃ (b151 : Addr), v = none ∧ Fr n0 L ∧ Keep h0 h [b147] ∧ h0.size ≤ b151 ∧ Fld Z h b147 "com/example/entail/entail/model/EntrySettings" "rules" "Ljava/util/List;" (.ref b151) ∧ Fld Z h b147 "com/example/entail/entail/model/EntrySettings" "rulesView" "Ljava/util/List;" (.ref b151) ∧ Fld Z h b147 "com/example/entail/entail/model/EntrySettings" "blockedTrusteesView" "Ljava/util/Set;" (.ref q2) ∧ Fld Z h b147 "com/example/entail/entail/model/EntrySettings" "blocks" "Z" (.int 0) ∧ Exa Z h b151 "java/util/ArrayList" ∧ Fld Z h b151 "java/util/AbstractList" "modCount" "I" (.int 0) ∧ Fld Z h b151 "java/util/ArrayList" "elementData" "[Ljava/lang/Object;" (.ref q1) ∧ mA = mL) ∨ (∃ (b151 : Addr), v = none ∧ Fr n0 L ∧ Keep h0 h [b147] ∧ h0.size ≤ b151 ∧ Fld Z h b147 "com/example/entail/entail/model/EntrySettings" "rules" "Ljava/util/List;" (.ref b151) ∧ Fld Z h b147 "com/example/entail/entail/model/EntrySettings" "rulesView" "Ljava/util/List;" (.ref b151) ∧ Fld Z h b147 "com/example/entail/entail/model/EntrySettings" "blockedTrusteesView" "Ljava/util/Set;" (.ref q2) ∧ Fld Z h b147 "com/example/entail/entail/model/EntrySettings" "blocks" "Z" (.int 0) ∧ Exa Z h b151 "java/util/ArrayList" ∧ Fld Z h b151 "java/util/AbstractList" "modCount" "I" (.int 0) ∧ Fld Z h b151 "java/util/ArrayList" "elementData" "[Ljava/lang/Object;" (.ref q1) ∧ ¬ (mA = mL) ∧ mA = mR) ∨ (∃ (b151 : Addr) (b183_202 : Addr), v = none ∧ Fr n0 L ∧ Keep h0 h [b147] ∧ h0.size ≤ b151 ∧ h0.size ≤ b183_202 ∧ Fld Z h b147 "com/example/entail/entail/model/EntrySettings" "rules" "Ljava/util/List;" (.ref b151) ∧ Fld Z h b147 "com/example/entail/entail/model/EntrySettings" "rulesView" "Ljava/util/List;" (.ref b183_202) ∧ Fld Z h b147 "com/example/entail/entail/model/EntrySettings" "blockedTrusteesView" "Ljava/util/Set;" (.ref q2) ∧ Fld Z h b147 "com/example/entail/entail/model/EntrySettings" "blocks" "Z" (.int 0) ∧ Exa Z h b151 "java/util/ArrayList" ∧ Fld Z h b151 "java/util/AbstractList" "modCount" "I" (.int 0) ∧ Fld Z h b151 "java/util/ArrayList" "elementData" "[Ljava/lang/Object;" (.ref q1) ∧ Exa Z h b183_202 "java/util/Collections$UnmodifiableRandomAccessList" ∧ Fld Z h b183_202 "java/util/Collections$UnmodifiableCollection" "c" "Ljava/util/Collection;" (.ref b151) ∧ Fld Z h b183_202 "java/util/Collections$UnmodifiableList" "list" "Ljava/util/List;" (.ref b151) ∧ ¬ (mA = mL) ∧ ¬ (mA = mR))
set_option maxRecDepth 65536 in
set_option maxHeartbeats 40000000 in
theorem r1_147 (l : Launch) (Z : State) (a0 : Array Value) (hw : ∀ d ∈ tables_1, d.before a0 Z = true) (ws : List Jvm.Cond) (h0 : Heap) (n0 : Nat) (Z0 : n0 ≤ h0.size) (mA : Addr) (mL : Addr) (mR : Addr) (q1 : Addr) (q2 : Addr) (b147 : Addr) (u148_0 : Sta Z h0 "java/util/ArrayList" "DEFAULTCAPACITY_EMPTY_ELEMENTDATA" "[Ljava/lang/Object;" (.ref q1)) (u148_1 : Sta Z h0 "java/util/ImmutableCollections" "EMPTY_SET" "Ljava/util/ImmutableCollections$SetN;" (.ref q2)) (u148_2 : Exa Z h0 b147 "com/example/entail/entail/model/EntrySettings") (u148_3 : Fld Z h0 b147 "com/example/entail/entail/model/EntrySettings" "rules" "Ljava/util/List;" .null) (u148_4 : Fld Z h0 b147 "com/example/entail/entail/model/EntrySettings" "rulesView" "Ljava/util/List;" .null) (u148_5 : Fld Z h0 b147 "com/example/entail/entail/model/EntrySettings" "blockedTrusteesView" "Ljava/util/Set;" .null) (u148_6 : Fld Z h0 b147 "com/example/entail/entail/model/EntrySettings" "blocks" "Z" (.int 0)) (MA : OwnMir Z "java/util/ArrayList" mA) (ML : OwnMir Z "java/util/Collections$UnmodifiableList" mL) (MR : OwnMir Z "java/util/Collections$UnmodifiableRandomAccessList" mR) (g_b147 : n0 ≤ b147) :
    MetFree l (⟨"com/example/entail/entail/model/EntrySettings", "<init>", "()V"⟩ : MethodName) (head1 (Jvm.Cond.code (⟨"com/example/entail/entail/model/EntrySettings", "<init>", "()V"⟩ : MethodName) prog_7_method_1_code 1 none :: ws) ({ frames := 5, cells := 2, slots := 5, locals := 77 } : Room)) (fun a U => a = #[(.ref b147)] ∧ Z.Warmed39 U.vm ∧ U.heap = h0) (fun _ _ _ _ _ => True) (fun _ U o U' => ∃ v L, o = .returned v ∧ Q_r1_147 Z mA mL mR q1 q2 b147 h0 n0 v U'.heap L ∧ FrameEnd U o U' L ({ frames := 5, cells := 2, slots := 5, locals := 77 } : Room).cells ({ frames := 5, cells := 2, slots := 5, locals := 77 } : Room).slots) := by
  refine MetFree.of_bodySF (plainFor_of_name pn8) hisR ?_
  intro p e s m args below meth c s₁ Bd hml0 hP hK
  obtain ⟨rfl, hZ, hh⟩ := hP
  have hx := Bd.exec
  have hby := Bd.bytes
  have hml : c.maxLocals = 1 := hml0
  have hown : s.vm.findClass "com/example/entail/entail/model/EntrySettings" = some m.cls := findClass_of_methodNamed Bd.named
  have hnm := (name_of_methodNamed Bd.named Bd.method).1
  have X0 : Stand p l e ({ frames := 5, cells := 2, slots := 5, locals := 77 } : Room) s m #[(.ref b147)] below meth c s₁ [] 0 0 := Stand.of_body Bd
  have e0 : s₁.heap = h0 := by rw [← hh, Bd.state]; rfl
  have N0 := Fr.nil n0
  refine Goes.out (Goes.by (fun tz kz => castTop (ef1_R m b147) kz) ?_)
  show Goes p e below (s₁.setTop (mkF m 0 #[rv b147] [])) _
  refine Goes.by (fun _ kz => XS.aloadN X0.here hx rfl (hb hby d1_0) rfl rfl kz) ?_
  obtain ⟨T150, X150, e150, st150⟩ := initO X0 hx hZ hown (hw _ (List.mem_of_getElem? (i := 6) rfl)) (hw _ (List.mem_of_getElem? (i := 7) rfl)) (hw _ (List.mem_of_getElem? (i := 8) rfl)) e0 (g := (mkF m 1 #[rv b147] [(.ref b147)])) rfl (by rw [hml]; rfl) rfl (hb hby d1_1) (by decide) (W := 0) (by show 2 * 0 + _ ≤ _; exact Nat.le_of_eq rfl) (by decide)
  refine Goes.by st150 ?_
  refine Goes.by (fun _ kz => XS.aloadN X150.here hx rfl (hb hby d1_4) rfl rfl kz) ?_
  obtain ⟨T151, h151, X151, e151, E151, A151, D151, -, st151⟩ := newO X150 hx hZ hown (hw _ (List.mem_of_getElem? (i := 9) rfl)) (hw _ (List.mem_of_getElem? (i := 10) rfl)) (hw _ (List.mem_of_getElem? (i := 11) rfl)) e150 (g := (mkF m 5 #[rv b147] [(.ref b147)])) rfl (hb hby d1_5) (by decide) (by decide)
  obtain ⟨b151, g151⟩ : ∃ z, z = h0.size := ⟨_, rfl⟩
  rw [← g151] at A151 D151 st151
  have ne151_b147 : b147 ≠ b151 := Nat.ne_of_lt (Nat.lt_of_lt_of_le u148_2.lt (Nat.le_of_eq g151.symm))
  have g_b151 : n0 ≤ b151 := Nat.le_trans Z0 (Nat.le_of_eq g151.symm)
  have sz_b151 : h0.size ≤ b151 := Nat.le_of_eq g151.symm
  have F151_modCount : Fld Z h151 b151 "java/util/AbstractList" "modCount" "I" (.int 0) := D151 (Or.inl (hw _ (List.mem_of_getElem? (i := 29) rfl))) (ty := .int) (by decide)
  have F151_elementData : Fld Z h151 b151 "java/util/ArrayList" "elementData" "[Ljava/lang/Object;" .null := D151 (Or.inl (hw _ (List.mem_of_getElem? (i := 32) rfl))) (ty := (.array (.object "java/lang/Object"))) (by decide)
  have K151 : Keep h0 h151 [b147] := Keep.ext (Keep.refl h0 [b147]) E151
  have Z151 : n0 ≤ h151.size := Nat.le_trans Z0 E151.1
  refine Goes.by st151 ?_
  refine Goes.by (fun _ kz => XS.dup X151.here hx rfl (hb hby d1_8) rfl rfl kz) ?_
  have f168 := (u148_0.ext E151)
  obtain ⟨_, _, ⟨T169, L169, k169, n169⟩, -, X169, ⟨Lc169, hQ169, l169, y169, z169⟩, st169⟩ := X151.specialBack hx (y := (⟨"java/util/ArrayList", "<init>", "()V"⟩ : MethodName)) rfl hown (mvT hZ (hw _ (List.mem_of_getElem? (i := 12) rfl))) (mvT hZ (hw _ (List.mem_of_getElem? (i := 13) rfl))) (mvT hZ (hw _ (List.mem_of_getElem? (i := 14) rfl))) (by decide) (backOf (W := 2) (r3_151 l Z a0 hw [] h151 n0 Z151 q1 b151 f168 A151 F151_modCount F151_elementData g_b151) hZ (hw _ (List.mem_of_getElem? (i := 14) rfl)) (hw _ (List.mem_of_getElem? (i := 11) rfl)) (by decide) (by decide)) (g := (mkF m 9 #[rv b147] [(.ref b151), (.ref b151), (.ref b147)])) rfl (by rw [hml]; rfl) (Steps.refl _) (a := b151) (argsL := []) (rest := [(.ref b151), (.ref b147)]) (lenOf pd0 rfl) rfl (by show 2 * 0 + _ ≤ _; exact Nat.le_of_eq rfl) (hb hby d1_9) (fun _ _ => ⟨rfl, e151, (by decide : 1 + 0 ≤ _), (by decide : 3 + 0 ≤ _)⟩)
  dsimp only [Pt.U, Pt.locs, Pt.cells, Pt.slots] at X169 l169 y169 z169 st169 hQ169
  subst l169 y169 z169
  obtain ⟨rfl, Nq169, Kq169, fq169_0, fq169_1⟩ := hQ169
  have K169 : Keep h0 T169.heap [b147] := Keep.trans K151 Kq169 (allS (Or.inr sz_b151) all0)
  have Z169 : n0 ≤ T169.heap.size := Nat.le_trans Z151 Kq169.1
  have N169 := Fr.app N0 Nq169
  refine Goes.tr st169 ?_
  have f170 := ((u148_2.ext E151).keep Kq169)
  have f171 := ((u148_3.ext E151).keep Kq169 (ninS ne151_b147 nin0))
  obtain ⟨T172, h172, X172, e172, W172, st172⟩ := putF X169 hx hZ hown (host := "") (Or.inl (hw _ (List.mem_of_getElem? (i := 33) rfl))) Via.refl rfl f171 f170 (Or.inr ⟨(hw _ (List.mem_of_getElem? (i := 34) rfl)), rfl, hnm⟩) (hw _ (List.mem_of_getElem? (i := 1) rfl)) (ty := (.object "java/util/List")) (by decide) rfl rfl (g := (mkF m 12 #[rv b147] [(.ref b151), (.ref b147)])) rfl rfl (hb hby d1_12)
  have Fw172 := Fld.same W172 f171
  have K172 : Keep h0 h172 [b147] := Keep.wr K169 W172 (Or.inl (List.mem_of_getElem? (i := 0) rfl))
  have Z172 : n0 ≤ h172.size := Nat.le_trans Z169 (Keep.of_wr W172).1
  have N172 := Fr.snoc X172 N169 g_b147
  refine Goes.by st172 ?_
  refine Goes.by (fun _ kz => XS.aloadN X172.here hx rfl (hb hby d1_15) rfl rfl (XS.aloadN X172.here hx rfl (hb hby d1_16) rfl rfl kz)) ?_
  obtain ⟨T173, X173, e173, st173⟩ := getF X172 hx hZ hown (host := "") (Or.inl (hw _ (List.mem_of_getElem? (i := 33) rfl))) Via.refl e172 Fw172 (g := (mkF m 17 #[rv b147] [(.ref b147), (.ref b147)])) rfl rfl (hb hby d1_17)
  refine Goes.by st173 ?_
  have f200 := (Exa.wr W172 f170)
  have f201 := (Exa.wr W172 (A151.keep Kq169))
  obtain ⟨_, _, ⟨T202, L202, k202, n202⟩, -, X202, ⟨Lc202, hQ202, l202, y202, z202⟩, st202⟩ := Jvm.LawKit.callS X173 hx (y := (⟨"java/util/Collections", "unmodifiableList", "(Ljava/util/List;)Ljava/util/List;"⟩ : MethodName)) hown (mvT hZ (hw _ (List.mem_of_getElem? (i := 35) rfl))) (mvT hZ (hw _ (List.mem_of_getElem? (i := 36) rfl))) (mvT hZ (hw _ (List.mem_of_getElem? (i := 37) rfl))) (mvT hZ (hw _ (List.mem_of_getElem? (i := 38) rfl))) (by decide) (backOf (W := 1) (r6_173 l Z a0 hw [] h172 n0 Z172 mA mL mR b147 b151 f200 f201 MA ML MR) hZ (hw _ (List.mem_of_getElem? (i := 38) rfl)) (hw _ (List.mem_of_getElem? (i := 37) rfl)) (by decide) (by decide)) (g := (mkF m 20 #[rv b147] [(.ref b151), (.ref b147)])) rfl (by rw [hml]; rfl) (argsL := [(.ref b151)]) (rest := [(.ref b147)]) (lenOf pd3 rfl) rfl (by show 2 * 0 + _ ≤ _; exact Nat.le_of_eq rfl) (hb hby d1_20) (fun _ _ => ⟨rfl, e173, (by decide : 1 + 1 ≤ _), (by decide : 3 + 2 ≤ _)⟩)
  dsimp only [Pt.U, Pt.locs, Pt.cells, Pt.slots] at X202 l202 y202 z202 st202 hQ202
  subst l202 y202 z202
  rcases hQ202 with hQ202 | hQ202 | hQ202
  · obtain ⟨rfl, Nq202, e202, hc202_178⟩ := hQ202
    have N202 := Fr.app N172 Nq202
    refine Goes.by st202 ?_
    have f203 := (Fld.other W172 ((u148_4.ext E151).keep Kq169 (ninS ne151_b147 nin0)) (Or.inr (slot_ne (Or.inr (hw _ (List.mem_of_getElem? (i := 79) rfl))) (Or.inr (hw _ (List.mem_of_getElem? (i := 34) rfl))) (by decide) (t := (.object "java/util/List")) (t' := (.object "java/util/List")) (by decide) (by decide))))
    obtain ⟨T204, h204, X204, e204, W204, st204⟩ := putF X202 hx hZ hown (host := "") (Or.inl (hw _ (List.mem_of_getElem? (i := 78) rfl))) Via.refl e202 f203 f200 (Or.inr ⟨(hw _ (List.mem_of_getElem? (i := 79) rfl)), rfl, hnm⟩) (hw _ (List.mem_of_getElem? (i := 1) rfl)) (ty := (.object "java/util/List")) (by decide) rfl rfl (g := (mkF m 23 #[rv b147] [(.ref b151), (.ref b147)])) rfl rfl (hb hby d1_23)
    have Fw204 := Fld.same W204 f203
    have K204 : Keep h0 h204 [b147] := Keep.wr K172 W204 (Or.inl (List.mem_of_getElem? (i := 0) rfl))
    have Z204 : n0 ≤ h204.size := Nat.le_trans Z172 (Keep.of_wr W204).1
    have N204 := Fr.snoc X204 N202 g_b147
    refine Goes.by st204 ?_
    refine Goes.by (fun _ kz => XS.aloadN X204.here hx rfl (hb hby d1_26) rfl rfl kz) ?_
    have f205 := (Sta.wr W204 (Sta.wr W172 (own_staKeep (u148_1.ext E151) Kq169 (allS (own_nsE A151) all0))))
    obtain ⟨_, _, ⟨T206, L206, k206, n206⟩, -, X206, ⟨Lc206, hQ206, l206, y206, z206⟩, st206⟩ := Jvm.LawKit.callS X204 hx (y := (⟨"java/util/Set", "of", "()Ljava/util/Set;"⟩ : MethodName)) hown (mvT hZ (hw _ (List.mem_of_getElem? (i := 80) rfl))) (mvT hZ (hw _ (List.mem_of_getElem? (i := 81) rfl))) (mvT hZ (hw _ (List.mem_of_getElem? (i := 82) rfl))) (mvT hZ (hw _ (List.mem_of_getElem? (i := 83) rfl))) (by decide) (backOf (W := 1) (r10_58 l Z a0 hw [] h204 n0 Z204 q2 f205) hZ (hw _ (List.mem_of_getElem? (i := 83) rfl)) (hw _ (List.mem_of_getElem? (i := 82) rfl)) (by decide) (by decide)) (g := (mkF m 27 #[rv b147] [(.ref b147)])) rfl (by rw [hml]; rfl) (argsL := []) (rest := [(.ref b147)]) (lenOf pd4 rfl) rfl (by show 2 * 0 + _ ≤ _; exact Nat.le_of_eq rfl) (hb hby d1_27) (fun _ _ => ⟨rfl, e204, (by decide : 2 + 0 ≤ _), (by decide : 5 + 0 ≤ _)⟩)
    dsimp only [Pt.U, Pt.locs, Pt.cells, Pt.slots] at X206 l206 y206 z206 st206 hQ206
    subst l206 y206 z206
    obtain ⟨rfl, Nq206, e206⟩ := hQ206
    have N206 := Fr.app N204 Nq206
    refine Goes.by st206 ?_
    have f207 := (Exa.wr W204 f200)
    have f208 := (Fld.other W204 (Fld.other W172 ((u148_5.ext E151).keep Kq169 (ninS ne151_b147 nin0)) (Or.inr (slot_ne (Or.inl (hw _ (List.mem_of_getElem? (i := 87) rfl))) (Or.inr (hw _ (List.mem_of_getElem? (i := 34) rfl))) (by decide) (t := (.object "java/util/Set")) (t' := (.object "java/util/List")) (by decide) (by decide)))) (Or.inr (slot_ne (Or.inl (hw _ (List.mem_of_getElem? (i := 87) rfl))) (Or.inr (hw _ (List.mem_of_getElem? (i := 79) rfl))) (by decide) (t := (.object "java/util/Set")) (t' := (.object "java/util/List")) (by decide) (by decide))))
    obtain ⟨T209, h209, X209, e209, W209, st209⟩ := putF X206 hx hZ hown (host := "") (Or.inl (hw _ (List.mem_of_getElem? (i := 86) rfl))) Via.refl e206 f208 f207 (Or.inl (hw _ (List.mem_of_getElem? (i := 87) rfl))) (hw _ (List.mem_of_getElem? (i := 1) rfl)) (ty := (.object "java/util/Set")) (by decide) rfl rfl (g := (mkF m 30 #[rv b147] [(.ref q2), (.ref b147)])) rfl rfl (hb hby d1_30)
    have Fw209 := Fld.same W209 f208
    have K209 : Keep h0 h209 [b147] := Keep.wr K204 W209 (Or.inl (List.mem_of_getElem? (i := 0) rfl))
    have Z209 : n0 ≤ h209.size := Nat.le_trans Z204 (Keep.of_wr W209).1
    have N209 := Fr.snoc X209 N206 g_b147
    refine Goes.by st209 ?_
    show Goes p e below (T209.setTop (mkF m 33 #[rv b147] [])) _
    have f210 := (Fld.other W209 (Fld.other W204 Fw172 (Or.inr (slot_ne (Or.inr (hw _ (List.mem_of_getElem? (i := 34) rfl))) (Or.inr (hw _ (List.mem_of_getElem? (i := 79) rfl))) (by decide) (t := (.object "java/util/List")) (t' := (.object "java/util/List")) (by decide) (by decide)))) (Or.inr (slot_ne (Or.inr (hw _ (List.mem_of_getElem? (i := 34) rfl))) (Or.inl (hw _ (List.mem_of_getElem? (i := 87) rfl))) (by decide) (t := (.object "java/util/List")) (t' := (.object "java/util/Set")) (by decide) (by decide))))
    have f211 := (Fld.other W209 Fw204 (Or.inr (slot_ne (Or.inr (hw _ (List.mem_of_getElem? (i := 79) rfl))) (Or.inl (hw _ (List.mem_of_getElem? (i := 87) rfl))) (by decide) (t := (.object "java/util/List")) (t' := (.object "java/util/Set")) (by decide) (by decide))))
    have f212 := (Fld.other W209 (Fld.other W204 (Fld.other W172 ((u148_6.ext E151).keep Kq169 (ninS ne151_b147 nin0)) (Or.inr (slot_ne (Or.inl (hw _ (List.mem_of_getElem? (i := 94) rfl))) (Or.inr (hw _ (List.mem_of_getElem? (i := 34) rfl))) (by decide) (t := .boolean) (t' := (.object "java/util/List")) (by decide) (by decide)))) (Or.inr (slot_ne (Or.inl (hw _ (List.mem_of_getElem? (i := 94) rfl))) (Or.inr (hw _ (List.mem_of_getElem? (i := 79) rfl))) (by decide) (t := .boolean) (t' := (.object "java/util/List")) (by decide) (by decide)))) (Or.inr (slot_ne (Or.inl (hw _ (List.mem_of_getElem? (i := 94) rfl))) (Or.inl (hw _ (List.mem_of_getElem? (i := 87) rfl))) (by decide) (t := .boolean) (t' := (.object "java/util/Set")) (by decide) (by decide))))
    have f213 := (Exa.wr W209 (Exa.wr W204 f201))
    have f214 := (Fld.other W209 (Fld.other W204 (Fld.other W172 fq169_0 (Or.inl (Ne.symm ne151_b147))) (Or.inl (Ne.symm ne151_b147))) (Or.inl (Ne.symm ne151_b147)))
    have f215 := (Fld.other W209 (Fld.other W204 (Fld.other W172 fq169_1 (Or.inl (Ne.symm ne151_b147))) (Or.inl (Ne.symm ne151_b147))) (Or.inl (Ne.symm ne151_b147)))
    obtain ⟨fs, hr, hrun, hended, hW, hsame⟩ := X209.leave (v := none) (fun _ => rfl)
    exact ⟨_, _, X209.returnOut hx Bd.returns (hb hby d1_33) hr, hrun, hended, _, _, rfl, (by rw [show (T209.setFrames fs).heap = h209 from e209]; exact (Or.inl ⟨b151, rfl, N209, K209, sz_b151, f210, f211, Fw209, f212, f213, f214, f215, hc202_178⟩)), ⟨_, rfl⟩, hW, hsame.mono (by decide) (by decide)⟩
  · obtain ⟨rfl, Nq202, e202, hc202_178, hc202_181⟩ := hQ202
    have N202 := Fr.app N172 Nq202
    refine Goes.by st202 ?_
    have f216 := (Fld.other W172 ((u148_4.ext E151).keep Kq169 (ninS ne151_b147 nin0)) (Or.inr (slot_ne (Or.inr (hw _ (List.mem_of_getElem? (i := 79) rfl))) (Or.inr (hw _ (List.mem_of_getElem? (i := 34) rfl))) (by decide) (t := (.object "java/util/List")) (t' := (.object "java/util/List")) (by decide) (by decide))))
    obtain ⟨T217, h217, X217, e217, W217, st217⟩ := putF X202 hx hZ hown (host := "") (Or.inl (hw _ (List.mem_of_getElem? (i := 78) rfl))) Via.refl e202 f216 f200 (Or.inr ⟨(hw _ (List.mem_of_getElem? (i := 79) rfl)), rfl, hnm⟩) (hw _ (List.mem_of_getElem? (i := 1) rfl)) (ty := (.object "java/util/List")) (by decide) rfl rfl (g := (mkF m 23 #[rv b147] [(.ref b151), (.ref b147)])) rfl rfl (hb hby d1_23)
    have Fw217 := Fld.same W217 f216
    have K217 : Keep h0 h217 [b147] := Keep.wr K172 W217 (Or.inl (List.mem_of_getElem? (i := 0) rfl))
    have Z217 : n0 ≤ h217.size := Nat.le_trans Z172 (Keep.of_wr W217).1
    have N217 := Fr.snoc X217 N202 g_b147
    refine Goes.by st217 ?_
    refine Goes.by (fun _ kz => XS.aloadN X217.here hx rfl (hb hby d1_26) rfl rfl kz) ?_
    have f218 := (Sta.wr W217 (Sta.wr W172 (own_staKeep (u148_1.ext E151) Kq169 (allS (own_nsE A151) all0))))
    obtain ⟨_, _, ⟨T219, L219, k219, n219⟩, -, X219, ⟨Lc219, hQ219, l219, y219, z219⟩, st219⟩ := Jvm.LawKit.callS X217 hx (y := (⟨"java/util/Set", "of", "()Ljava/util/Set;"⟩ : MethodName)) hown (mvT hZ (hw _ (List.mem_of_getElem? (i := 80) rfl))) (mvT hZ (hw _ (List.mem_of_getElem? (i := 81) rfl))) (mvT hZ (hw _ (List.mem_of_getElem? (i := 82) rfl))) (mvT hZ (hw _ (List.mem_of_getElem? (i := 83) rfl))) (by decide) (backOf (W := 1) (r10_58 l Z a0 hw [] h217 n0 Z217 q2 f218) hZ (hw _ (List.mem_of_getElem? (i := 83) rfl)) (hw _ (List.mem_of_getElem? (i := 82) rfl)) (by decide) (by decide)) (g := (mkF m 27 #[rv b147] [(.ref b147)])) rfl (by rw [hml]; rfl) (argsL := []) (rest := [(.ref b147)]) (lenOf pd4 rfl) rfl (by show 2 * 0 + _ ≤ _; exact Nat.le_of_eq rfl) (hb hby d1_27) (fun _ _ => ⟨rfl, e217, (by decide : 2 + 0 ≤ _), (by decide : 5 + 0 ≤ _)⟩)
    dsimp only [Pt.U, Pt.locs, Pt.cells, Pt.slots] at X219 l219 y219 z219 st219 hQ219
    subst l219 y219 z219
    obtain ⟨rfl, Nq219, e219⟩ := hQ219
    have N219 := Fr.app N217 Nq219
    refine Goes.by st219 ?_
    have f220 := (Exa.wr W217 f200)
    have f221 := (Fld.other W217 (Fld.other W172 ((u148_5.ext E151).keep Kq169 (ninS ne151_b147 nin0)) (Or.inr (slot_ne (Or.inl (hw _ (List.mem_of_getElem? (i := 87) rfl))) (Or.inr (hw _ (List.mem_of_getElem? (i := 34) rfl))) (by decide) (t := (.object "java/util/Set")) (t' := (.object "java/util/List")) (by decide) (by decide)))) (Or.inr (slot_ne (Or.inl (hw _ (List.mem_of_getElem? (i := 87) rfl))) (Or.inr (hw _ (List.mem_of_getElem? (i := 79) rfl))) (by decide) (t := (.object "java/util/Set")) (t' := (.object "java/util/List")) (by decide) (by decide))))
    obtain ⟨T222, h222, X222, e222, W222, st222⟩ := putF X219 hx hZ hown (host := "") (Or.inl (hw _ (List.mem_of_getElem? (i := 86) rfl))) Via.refl e219 f221 f220 (Or.inl (hw _ (List.mem_of_getElem? (i := 87) rfl))) (hw _ (List.mem_of_getElem? (i := 1) rfl)) (ty := (.object "java/util/Set")) (by decide) rfl rfl (g := (mkF m 30 #[rv b147] [(.ref q2), (.ref b147)])) rfl rfl (hb hby d1_30)
    have Fw222 := Fld.same W222 f221
    have K222 : Keep h0 h222 [b147] := Keep.wr K217 W222 (Or.inl (List.mem_of_getElem? (i := 0) rfl))
    have Z222 : n0 ≤ h222.size := Nat.le_trans Z217 (Keep.of_wr W222).1
    have N222 := Fr.snoc X222 N219 g_b147
    refine Goes.by st222 ?_
    show Goes p e below (T222.setTop (mkF m 33 #[rv b147] [])) _
    have f223 := (Fld.other W222 (Fld.other W217 Fw172 (Or.inr (slot_ne (Or.inr (hw _ (List.mem_of_getElem? (i := 34) rfl))) (Or.inr (hw _ (List.mem_of_getElem? (i := 79) rfl))) (by decide) (t := (.object "java/util/List")) (t' := (.object "java/util/List")) (by decide) (by decide)))) (Or.inr (slot_ne (Or.inr (hw _ (List.mem_of_getElem? (i := 34) rfl))) (Or.inl (hw _ (List.mem_of_getElem? (i := 87) rfl))) (by decide) (t := (.object "java/util/List")) (t' := (.object "java/util/Set")) (by decide) (by decide))))
    have f224 := (Fld.other W222 Fw217 (Or.inr (slot_ne (Or.inr (hw _ (List.mem_of_getElem? (i := 79) rfl))) (Or.inl (hw _ (List.mem_of_getElem? (i := 87) rfl))) (by decide) (t := (.object "java/util/List")) (t' := (.object "java/util/Set")) (by decide) (by decide))))
    have f225 := (Fld.other W222 (Fld.other W217 (Fld.other W172 ((u148_6.ext E151).keep Kq169 (ninS ne151_b147 nin0)) (Or.inr (slot_ne (Or.inl (hw _ (List.mem_of_getElem? (i := 94) rfl))) (Or.inr (hw _ (List.mem_of_getElem? (i := 34) rfl))) (by decide) (t := .boolean) (t' := (.object "java/util/List")) (by decide) (by decide)))) (Or.inr (slot_ne (Or.inl (hw _ (List.mem_of_getElem? (i := 94) rfl))) (Or.inr (hw _ (List.mem_of_getElem? (i := 79) rfl))) (by decide) (t := .boolean) (t' := (.object "java/util/List")) (by decide) (by decide)))) (Or.inr (slot_ne (Or.inl (hw _ (List.mem_of_getElem? (i := 94) rfl))) (Or.inl (hw _ (List.mem_of_getElem? (i := 87) rfl))) (by decide) (t := .boolean) (t' := (.object "java/util/Set")) (by decide) (by decide))))
    have f226 := (Exa.wr W222 (Exa.wr W217 f201))
    have f227 := (Fld.other W222 (Fld.other W217 (Fld.other W172 fq169_0 (Or.inl (Ne.symm ne151_b147))) (Or.inl (Ne.symm ne151_b147))) (Or.inl (Ne.symm ne151_b147)))
    have f228 := (Fld.other W222 (Fld.other W217 (Fld.other W172 fq169_1 (Or.inl (Ne.symm ne151_b147))) (Or.inl (Ne.symm ne151_b147))) (Or.inl (Ne.symm ne151_b147)))
    obtain ⟨fs, hr, hrun, hended, hW, hsame⟩ := X222.leave (v := none) (fun _ => rfl)
    exact ⟨_, _, X222.returnOut hx Bd.returns (hb hby d1_33) hr, hrun, hended, _, _, rfl, (by rw [show (T222.setFrames fs).heap = h222 from e222]; exact (Or.inr (Or.inl ⟨b151, rfl, N222, K222, sz_b151, f223, f224, Fw222, f225, f226, f227, f228, hc202_178, hc202_181⟩))), ⟨_, rfl⟩, hW, hsame.mono (by decide) (by decide)⟩
  · obtain ⟨b183_202, rfl, Nq202, Kq202, sq202_b183, fq202_0, fq202_1, fq202_2, hc202_178, hc202_181⟩ := hQ202
    have K202 : Keep h0 T202.heap [b147] := Keep.trans K172 Kq202 all0
    have Z202 : n0 ≤ T202.heap.size := Nat.le_trans Z172 Kq202.1
    have ne202_b183_b147 : b147 ≠ b183_202 := Nat.ne_of_lt (Nat.lt_of_lt_of_le f200.lt sq202_b183)
    have ne202_b183_b151 : b151 ≠ b183_202 := Nat.ne_of_lt (Nat.lt_of_lt_of_le f201.lt sq202_b183)
    have g_b183_202 : n0 ≤ b183_202 := Nat.le_trans Z172 sq202_b183
    have sz_b183_202 : h0.size ≤ b183_202 := Nat.le_trans K172.1 sq202_b183
    have N202 := Fr.app N172 Nq202
    refine Goes.by st202 ?_
    have f229 := (f200.keep Kq202)
    have f230 := ((Fld.other W172 ((u148_4.ext E151).keep Kq169 (ninS ne151_b147 nin0)) (Or.inr (slot_ne (Or.inr (hw _ (List.mem_of_getElem? (i := 79) rfl))) (Or.inr (hw _ (List.mem_of_getElem? (i := 34) rfl))) (by decide) (t := (.object "java/util/List")) (t' := (.object "java/util/List")) (by decide) (by decide)))).keep Kq202 nin0)
    obtain ⟨T231, h231, X231, e231, W231, st231⟩ := putF X202 hx hZ hown (host := "") (Or.inl (hw _ (List.mem_of_getElem? (i := 78) rfl))) Via.refl rfl f230 f229 (Or.inr ⟨(hw _ (List.mem_of_getElem? (i := 79) rfl)), rfl, hnm⟩) (hw _ (List.mem_of_getElem? (i := 1) rfl)) (ty := (.object "java/util/List")) (by decide) rfl rfl (g := (mkF m 23 #[rv b147] [(.ref b183_202), (.ref b147)])) rfl rfl (hb hby d1_23)
    have Fw231 := Fld.same W231 f230
    have K231 : Keep h0 h231 [b147] := Keep.wr K202 W231 (Or.inl (List.mem_of_getElem? (i := 0) rfl))
    have Z231 : n0 ≤ h231.size := Nat.le_trans Z202 (Keep.of_wr W231).1
    have N231 := Fr.snoc X231 N202 g_b147
    refine Goes.by st231 ?_
    refine Goes.by (fun _ kz => XS.aloadN X231.here hx rfl (hb hby d1_26) rfl rfl kz) ?_
    have f232 := (Sta.wr W231 (own_staKeep (Sta.wr W172 (own_staKeep (u148_1.ext E151) Kq169 (allS (own_nsE A151) all0))) Kq202 all0))
    obtain ⟨_, _, ⟨T233, L233, k233, n233⟩, -, X233, ⟨Lc233, hQ233, l233, y233, z233⟩, st233⟩ := Jvm.LawKit.callS X231 hx (y := (⟨"java/util/Set", "of", "()Ljava/util/Set;"⟩ : MethodName)) hown (mvT hZ (hw _ (List.mem_of_getElem? (i := 80) rfl))) (mvT hZ (hw _ (List.mem_of_getElem? (i := 81) rfl))) (mvT hZ (hw _ (List.mem_of_getElem? (i := 82) rfl))) (mvT hZ (hw _ (List.mem_of_getElem? (i := 83) rfl))) (by decide) (backOf (W := 1) (r10_58 l Z a0 hw [] h231 n0 Z231 q2 f232) hZ (hw _ (List.mem_of_getElem? (i := 83) rfl)) (hw _ (List.mem_of_getElem? (i := 82) rfl)) (by decide) (by decide)) (g := (mkF m 27 #[rv b147] [(.ref b147)])) rfl (by rw [hml]; rfl) (argsL := []) (rest := [(.ref b147)]) (lenOf pd4 rfl) rfl (by show 2 * 0 + _ ≤ _; exact Nat.le_of_eq rfl) (hb hby d1_27) (fun _ _ => ⟨rfl, e231, (by decide : 2 + 0 ≤ _), (by decide : 5 + 0 ≤ _)⟩)
    dsimp only [Pt.U, Pt.locs, Pt.cells, Pt.slots] at X233 l233 y233 z233 st233 hQ233
    subst l233 y233 z233
    obtain ⟨rfl, Nq233, e233⟩ := hQ233
    have N233 := Fr.app N231 Nq233
    refine Goes.by st233 ?_
    have f234 := (Exa.wr W231 f229)
    have f235 := (Fld.other W231 ((Fld.other W172 ((u148_5.ext E151).keep Kq169 (ninS ne151_b147 nin0)) (Or.inr (slot_ne (Or.inl (hw _ (List.mem_of_getElem? (i := 87) rfl))) (Or.inr (hw _ (List.mem_of_getElem? (i := 34) rfl))) (by decide) (t := (.object "java/util/Set")) (t' := (.object "java/util/List")) (by decide) (by decide)))).keep Kq202 nin0) (Or.inr (slot_ne (Or.inl (hw _ (List.mem_of_getElem? (i := 87) rfl))) (Or.inr (hw _ (List.mem_of_getElem? (i := 79) rfl))) (by decide) (t := (.object "java/util/Set")) (t' := (.object "java/util/List")) (by decide) (by decide))))
    obtain ⟨T236, h236, X236, e236, W236, st236⟩ := putF X233 hx hZ hown (host := "") (Or.inl (hw _ (List.mem_of_getElem? (i := 86) rfl))) Via.refl e233 f235 f234 (Or.inl (hw _ (List.mem_of_getElem? (i := 87) rfl))) (hw _ (List.mem_of_getElem? (i := 1) rfl)) (ty := (.object "java/util/Set")) (by decide) rfl rfl (g := (mkF m 30 #[rv b147] [(.ref q2), (.ref b147)])) rfl rfl (hb hby d1_30)
    have Fw236 := Fld.same W236 f235
    have K236 : Keep h0 h236 [b147] := Keep.wr K231 W236 (Or.inl (List.mem_of_getElem? (i := 0) rfl))
    have Z236 : n0 ≤ h236.size := Nat.le_trans Z231 (Keep.of_wr W236).1
    have N236 := Fr.snoc X236 N233 g_b147
    refine Goes.by st236 ?_
    show Goes p e below (T236.setTop (mkF m 33 #[rv b147] [])) _
    have f237 := (Fld.other W236 (Fld.other W231 (Fw172.keep Kq202 nin0) (Or.inr (slot_ne (Or.inr (hw _ (List.mem_of_getElem? (i := 34) rfl))) (Or.inr (hw _ (List.mem_of_getElem? (i := 79) rfl))) (by decide) (t := (.object "java/util/List")) (t' := (.object "java/util/List")) (by decide) (by decide)))) (Or.inr (slot_ne (Or.inr (hw _ (List.mem_of_getElem? (i := 34) rfl))) (Or.inl (hw _ (List.mem_of_getElem? (i := 87) rfl))) (by decide) (t := (.object "java/util/List")) (t' := (.object "java/util/Set")) (by decide) (by decide))))
    have f238 := (Fld.other W236 Fw231 (Or.inr (slot_ne (Or.inr (hw _ (List.mem_of_getElem? (i := 79) rfl))) (Or.inl (hw _ (List.mem_of_getElem? (i := 87) rfl))) (by decide) (t := (.object "java/util/List")) (t' := (.object "java/util/Set")) (by decide) (by decide))))
    have f239 := (Fld.other W236 (Fld.other W231 ((Fld.other W172 ((u148_6.ext E151).keep Kq169 (ninS ne151_b147 nin0)) (Or.inr (slot_ne (Or.inl (hw _ (List.mem_of_getElem? (i := 94) rfl))) (Or.inr (hw _ (List.mem_of_getElem? (i := 34) rfl))) (by decide) (t := .boolean) (t' := (.object "java/util/List")) (by decide) (by decide)))).keep Kq202 nin0) (Or.inr (slot_ne (Or.inl (hw _ (List.mem_of_getElem? (i := 94) rfl))) (Or.inr (hw _ (List.mem_of_getElem? (i := 79) rfl))) (by decide) (t := .boolean) (t' := (.object "java/util/List")) (by decide) (by decide)))) (Or.inr (slot_ne (Or.inl (hw _ (List.mem_of_getElem? (i := 94) rfl))) (Or.inl (hw _ (List.mem_of_getElem? (i := 87) rfl))) (by decide) (t := .boolean) (t' := (.object "java/util/Set")) (by decide) (by decide))))
    have f240 := (Exa.wr W236 (Exa.wr W231 (f201.keep Kq202)))
    have f241 := (Fld.other W236 (Fld.other W231 ((Fld.other W172 fq169_0 (Or.inl (Ne.symm ne151_b147))).keep Kq202 nin0) (Or.inl (Ne.symm ne151_b147))) (Or.inl (Ne.symm ne151_b147)))
    have f242 := (Fld.other W236 (Fld.other W231 ((Fld.other W172 fq169_1 (Or.inl (Ne.symm ne151_b147))).keep Kq202 nin0) (Or.inl (Ne.symm ne151_b147))) (Or.inl (Ne.symm ne151_b147)))
    have f243 := (Exa.wr W236 (Exa.wr W231 fq202_0))
    have f244 := (Fld.other W236 (Fld.other W231 fq202_1 (Or.inl (Ne.symm ne202_b183_b147))) (Or.inl (Ne.symm ne202_b183_b147)))
    have f245 := (Fld.other W236 (Fld.other W231 fq202_2 (Or.inl (Ne.symm ne202_b183_b147))) (Or.inl (Ne.symm ne202_b183_b147)))
    obtain ⟨fs, hr, hrun, hended, hW, hsame⟩ := X236.leave (v := none) (fun _ => rfl)
    exact ⟨_, _, X236.returnOut hx Bd.returns (hb hby d1_33) hr, hrun, hended, _, _, rfl, (by rw [show (T236.setFrames fs).heap = h236 from e236]; exact (Or.inr (Or.inr ⟨b151, b183_202, rfl, N236, K236, sz_b151, sz_b183_202, f237, f238, Fw236, f239, f240, f241, f242, f243, f244, f245, hc202_178, hc202_181⟩))), ⟨_, rfl⟩, hW, hsame.mono (by decide) (by decide)⟩
def Q_r11_248 (Z : State) (b147 : Addr) (h0 : Heap) (n0 : Nat) (v : Option Value) (h : Heap) (L : List Loc) : Prop := (v = some (.int 0) ∧ Fr n0 L ∧ h = h0)
set_option maxRecDepth 65536 in
set_option maxHeartbeats 40000000 in
theorem r11_248 (l : Launch) (Z : State) (a0 : Array Value) (hw : ∀ d ∈ tables_1, d.before a0 Z = true) (ws : List Jvm.Cond) (h0 : Heap) (n0 : Nat) (Z0 : n0 ≤ h0.size) (b147 : Addr) (u249_6 : Fld Z h0 b147 "com/example/entail/entail/model/EntrySettings" "blocks" "Z" (.int 0))  :
    MetFree l (⟨"com/example/entail/entail/model/EntrySettings", "blocks", "()Z"⟩ : MethodName) (head1 (Jvm.Cond.code (⟨"com/example/entail/entail/model/EntrySettings", "blocks", "()Z"⟩ : MethodName) prog_7_method_3_code 1 (some .boolean) :: ws) ({ frames := 0, cells := 0, slots := 0, locals := 0 } : Room)) (fun a U => a = #[(.ref b147)] ∧ Z.Warmed39 U.vm ∧ U.heap = h0) (fun _ _ _ _ _ => True) (fun _ U o U' => ∃ v L, o = .returned v ∧ Q_r11_248 Z b147 h0 n0 v U'.heap L ∧ FrameEnd U o U' L ({ frames := 0, cells := 0, slots := 0, locals := 0 } : Room).cells ({ frames := 0, cells := 0, slots := 0, locals := 0 } : Room).slots) := by
  refine MetFree.of_bodySF (plainFor_of_name pn8) hisR ?_
  intro p e s m args below meth c s₁ Bd hml0 hP hK
  obtain ⟨rfl, hZ, hh⟩ := hP
  have hx := Bd.exec
  have hby := Bd.bytes
  have hml : c.maxLocals = 1 := hml0
  have hown : s.vm.findClass "com/example/entail/entail/model/EntrySettings" = some m.cls := findClass_of_methodNamed Bd.named
  have hnm := (name_of_methodNamed Bd.named Bd.method).1
  have X0 : Stand p l e ({ frames := 0, cells := 0, slots := 0, locals := 0 } : Room) s m #[(.ref b147)] below meth c s₁ [] 0 0 := Stand.of_body Bd
  have e0 : s₁.heap = h0 := by rw [← hh, Bd.state]; rfl
  have N0 := Fr.nil n0
  refine Goes.out (Goes.by (fun tz kz => castTop (ef11_R m b147) kz) ?_)
  show Goes p e below (s₁.setTop (mkF m 0 #[rv b147] [])) _
  refine Goes.by (fun _ kz => XS.aloadN X0.here hx rfl (hb hby d11_0) rfl rfl kz) ?_
  obtain ⟨T251, X251, e251, st251⟩ := getF X0 hx hZ hown (host := "") (Or.inl (hw _ (List.mem_of_getElem? (i := 93) rfl))) Via.refl e0 u249_6 (g := (mkF m 1 #[rv b147] [(.ref b147)])) rfl rfl (hb hby d11_1)
  refine Goes.by st251 ?_
  show Goes p e below (T251.setTop (mkF m 4 #[rv b147] [(.int 0)])) _
  obtain ⟨fs, hr, hrun, hended, hW, hsame⟩ := X251.leave (v := some (.int 0)) (fun h => by rw [Bd.returns] at h; cases h)
  exact ⟨_, _, retN X251 hx (t := .boolean) Bd.returns (by simp) (hb hby d11_4) hr, hrun, hended, _, _, rfl, ⟨rfl, N0, e251⟩, ⟨_, rfl⟩, hW, hsame.mono (by decide) (by decide)⟩
def Q_r12_253 (Z : State) (q2 : Addr) (b147 : Addr) (b151_248 : Addr) (h0 : Heap) (n0 : Nat) (v : Option Value) (h : Heap) (L : List Loc) : Prop := (v = some (.int 0) ∧ Fr n0 L ∧ Keep h0 h [b147] ∧ Fld Z h b147 "com/example/entail/entail/model/EntrySettings" "rules" "Ljava/util/List;" (.ref b151_248) ∧ Fld Z h b147 "com/example/entail/entail/model/EntrySettings" "rulesView" "Ljava/util/List;" (.ref b151_248) ∧ Fld Z h b147 "com/example/entail/entail/model/EntrySettings" "blockedTrusteesView" "Ljava/util/Set;" (.ref q2) ∧ Fld Z h b147 "com/example/entail/entail/model/EntrySettings" "blocks" "Z" (.int 0))
set_option maxRecDepth 65536 in
set_option maxHeartbeats 40000000 in
theorem r12_253 (l : Launch) (Z : State) (a0 : Array Value) (hw : ∀ d ∈ tables_1, d.before a0 Z = true) (ws : List Jvm.Cond) (h0 : Heap) (n0 : Nat) (Z0 : n0 ≤ h0.size) (q2 : Addr) (b147 : Addr) (b151_248 : Addr) (u254_2 : Exa Z h0 b147 "com/example/entail/entail/model/EntrySettings") (u254_3 : Fld Z h0 b147 "com/example/entail/entail/model/EntrySettings" "rules" "Ljava/util/List;" (.ref b151_248)) (u254_4 : Fld Z h0 b147 "com/example/entail/entail/model/EntrySettings" "rulesView" "Ljava/util/List;" (.ref b151_248)) (u254_5 : Fld Z h0 b147 "com/example/entail/entail/model/EntrySettings" "blockedTrusteesView" "Ljava/util/Set;" (.ref q2)) (u254_6 : Fld Z h0 b147 "com/example/entail/entail/model/EntrySettings" "blocks" "Z" (.int 0)) (g_b147 : n0 ≤ b147) :
    MetFree l (⟨"com/example/entail/entail/model/EntrySettings", "setBlocks", "(Z)Z"⟩ : MethodName) (head1 (Jvm.Cond.code (⟨"com/example/entail/entail/model/EntrySettings", "setBlocks", "(Z)Z"⟩ : MethodName) prog_7_method_7_code 3 (some .boolean) :: ws) ({ frames := 0, cells := 0, slots := 0, locals := 0 } : Room)) (fun a U => a = #[(.ref b147), (.int 0)] ∧ Z.Warmed39 U.vm ∧ U.heap = h0) (fun _ _ _ _ _ => True) (fun _ U o U' => ∃ v L, o = .returned v ∧ Q_r12_253 Z q2 b147 b151_248 h0 n0 v U'.heap L ∧ FrameEnd U o U' L ({ frames := 0, cells := 0, slots := 0, locals := 0 } : Room).cells ({ frames := 0, cells := 0, slots := 0, locals := 0 } : Room).slots) := by
  refine MetFree.of_bodySF (plainFor_of_name pn8) hisR ?_
  intro p e s m args below meth c s₁ Bd hml0 hP hK
  obtain ⟨rfl, hZ, hh⟩ := hP
  have hx := Bd.exec
  have hby := Bd.bytes
  have hml : c.maxLocals = 3 := hml0
  have hown : s.vm.findClass "com/example/entail/entail/model/EntrySettings" = some m.cls := findClass_of_methodNamed Bd.named
  have hnm := (name_of_methodNamed Bd.named Bd.method).1
  have X0 : Stand p l e ({ frames := 0, cells := 0, slots := 0, locals := 0 } : Room) s m #[(.ref b147), (.int 0)] below meth c s₁ [] 0 0 := Stand.of_body Bd
  have e0 : s₁.heap = h0 := by rw [← hh, Bd.state]; rfl
  have N0 := Fr.nil n0
  refine Goes.out (Goes.by (fun tz kz => castTop (ef12_RI m b147 ((0 : Int32))) kz) ?_)
  show Goes p e below (s₁.setTop (mkF m 0 #[rv b147, iv 0, .unset] [])) _
  refine Goes.by (fun _ kz => XS.aloadN X0.here hx rfl (hb hby d12_0) rfl rfl kz) ?_
  obtain ⟨T256, X256, e256, st256⟩ := getF X0 hx hZ hown (host := "") (Or.inl (hw _ (List.mem_of_getElem? (i := 93) rfl))) Via.refl e0 u254_6 (g := (mkF m 1 #[rv b147, iv 0, .unset] [(.ref b147)])) rfl rfl (hb hby d12_1)
  refine Goes.by st256 ?_
  refine Goes.by (fun _ kz => XS.iloadN X256.here hx rfl (hb hby d12_4) rfl (XS.icmpYes X256.here hx rfl (pc0 := 5) (pc' := 12) rfl (hb hby d12_5) rfl (teq (by decide : (0 : Int32) = (0 : Int32))).1 (by decide) (by decide) (XS.iconst X256.here hx rfl (hb hby d12_12) kz))) ?_
  show Goes p e below (T256.setTop (mkF m 13 #[rv b147, iv 0, .unset] [(.int 0)])) _
  refine Goes.by (fun _ kz => XS.istoreN X256.here hx rfl (hb hby d12_13) rfl (l' := #[rv b147, iv 0, iv 0]) rfl (XS.aloadN X256.here hx rfl (hb hby d12_14) rfl rfl (XS.iloadN X256.here hx rfl (hb hby d12_15) rfl kz))) ?_
  obtain ⟨T257, h257, X257, e257, W257, st257⟩ := putFN X256 hx hZ hown (hw _ (List.mem_of_getElem? (i := 93) rfl)) Via.refl e256 u254_6 u254_2 (Or.inl (hw _ (List.mem_of_getElem? (i := 94) rfl))) (hw _ (List.mem_of_getElem? (i := 1) rfl)) (ty := .boolean) (v' := (.int 0)) (by decide) rfl rfl (g := (mkF m 16 #[rv b147, iv 0, iv 0] [(.int 0), (.ref b147)])) rfl rfl (hb hby d12_16)
  have Fw257 := Fld.same W257 u254_6
  have K257 : Keep h0 h257 [b147] := Keep.wr (Keep.refl h0 [b147]) W257 (Or.inl (List.mem_of_getElem? (i := 0) rfl))
  have Z257 : n0 ≤ h257.size := Nat.le_trans Z0 (Keep.of_wr W257).1
  have N257 := Fr.snoc X257 N0 g_b147
  refine Goes.by st257 ?_
  refine Goes.by (fun _ kz => XS.iloadN X257.here hx rfl (hb hby d12_19) rfl kz) ?_
  show Goes p e below (T257.setTop (mkF m 20 #[rv b147, iv 0, iv 0] [(.int 0)])) _
  have f258 := (Fld.other W257 u254_3 (Or.inr (slot_ne (Or.inr (hw _ (List.mem_of_getElem? (i := 34) rfl))) (Or.inl (hw _ (List.mem_of_getElem? (i := 94) rfl))) (by decide) (t := (.object "java/util/List")) (t' := .boolean) (by decide) (by decide))))
  have f259 := (Fld.other W257 u254_4 (Or.inr (slot_ne (Or.inr (hw _ (List.mem_of_getElem? (i := 79) rfl))) (Or.inl (hw _ (List.mem_of_getElem? (i := 94) rfl))) (by decide) (t := (.object "java/util/List")) (t' := .boolean) (by decide) (by decide))))
  have f260 := (Fld.other W257 u254_5 (Or.inr (slot_ne (Or.inl (hw _ (List.mem_of_getElem? (i := 87) rfl))) (Or.inl (hw _ (List.mem_of_getElem? (i := 94) rfl))) (by decide) (t := (.object "java/util/Set")) (t' := .boolean) (by decide) (by decide))))
  obtain ⟨fs, hr, hrun, hended, hW, hsame⟩ := X257.leave (v := some (.int 0)) (fun h => by rw [Bd.returns] at h; cases h)
  exact ⟨_, _, retN X257 hx (t := .boolean) Bd.returns (by simp) (hb hby d12_20) hr, hrun, hended, _, _, rfl, (by rw [show (T257.setFrames fs).heap = h257 from e257]; exact ⟨rfl, N257, K257, f258, f259, f260, Fw257⟩), ⟨_, rfl⟩, hW, hsame.mono (by decide) (by decide)⟩
def Q_r12_263 (Z : State) (q2 : Addr) (b147 : Addr) (b151_248 : Addr) (h0 : Heap) (n0 : Nat) (v : Option Value) (h : Heap) (L : List Loc) : Prop := (v = some (.int 1) ∧ Fr n0 L ∧ Keep h0 h [b147] ∧ Fld Z h b147 "com/example/entail/entail/model/EntrySettings" "rules" "Ljava/util/List;" (.ref b151_248) ∧ Fld Z h b147 "com/example/entail/entail/model/EntrySettings" "rulesView" "Ljava/util/List;" (.ref b151_248) ∧ Fld Z h b147 "com/example/entail/entail/model/EntrySettings" "blockedTrusteesView" "Ljava/util/Set;" (.ref q2) ∧ Fld Z h b147 "com/example/entail/entail/model/EntrySettings" "blocks" "Z" (.int 1))
set_option maxRecDepth 65536 in
set_option maxHeartbeats 40000000 in
theorem r12_263 (l : Launch) (Z : State) (a0 : Array Value) (hw : ∀ d ∈ tables_1, d.before a0 Z = true) (ws : List Jvm.Cond) (h0 : Heap) (n0 : Nat) (Z0 : n0 ≤ h0.size) (q2 : Addr) (b147 : Addr) (b151_248 : Addr) (u264_2 : Exa Z h0 b147 "com/example/entail/entail/model/EntrySettings") (u264_6 : Fld Z h0 b147 "com/example/entail/entail/model/EntrySettings" "rules" "Ljava/util/List;" (.ref b151_248)) (u264_7 : Fld Z h0 b147 "com/example/entail/entail/model/EntrySettings" "rulesView" "Ljava/util/List;" (.ref b151_248)) (u264_8 : Fld Z h0 b147 "com/example/entail/entail/model/EntrySettings" "blockedTrusteesView" "Ljava/util/Set;" (.ref q2)) (u264_9 : Fld Z h0 b147 "com/example/entail/entail/model/EntrySettings" "blocks" "Z" (.int 0)) (g_b147 : n0 ≤ b147) :
    MetFree l (⟨"com/example/entail/entail/model/EntrySettings", "setBlocks", "(Z)Z"⟩ : MethodName) (head1 (Jvm.Cond.code (⟨"com/example/entail/entail/model/EntrySettings", "setBlocks", "(Z)Z"⟩ : MethodName) prog_7_method_7_code 3 (some .boolean) :: ws) ({ frames := 0, cells := 0, slots := 0, locals := 0 } : Room)) (fun a U => a = #[(.ref b147), (.int 1)] ∧ Z.Warmed39 U.vm ∧ U.heap = h0) (fun _ _ _ _ _ => True) (fun _ U o U' => ∃ v L, o = .returned v ∧ Q_r12_263 Z q2 b147 b151_248 h0 n0 v U'.heap L ∧ FrameEnd U o U' L ({ frames := 0, cells := 0, slots := 0, locals := 0 } : Room).cells ({ frames := 0, cells := 0, slots := 0, locals := 0 } : Room).slots) := by
  refine MetFree.of_bodySF (plainFor_of_name pn8) hisR ?_
  intro p e s m args below meth c s₁ Bd hml0 hP hK
  obtain ⟨rfl, hZ, hh⟩ := hP
  have hx := Bd.exec
  have hby := Bd.bytes
  have hml : c.maxLocals = 3 := hml0
  have hown : s.vm.findClass "com/example/entail/entail/model/EntrySettings" = some m.cls := findClass_of_methodNamed Bd.named
  have hnm := (name_of_methodNamed Bd.named Bd.method).1
  have X0 : Stand p l e ({ frames := 0, cells := 0, slots := 0, locals := 0 } : Room) s m #[(.ref b147), (.int 1)] below meth c s₁ [] 0 0 := Stand.of_body Bd
  have e0 : s₁.heap = h0 := by rw [← hh, Bd.state]; rfl
  have N0 := Fr.nil n0
  refine Goes.out (Goes.by (fun tz kz => castTop (ef12_RI m b147 ((1 : Int32))) kz) ?_)
  show Goes p e below (s₁.setTop (mkF m 0 #[rv b147, iv 1, .unset] [])) _
  refine Goes.by (fun _ kz => XS.aloadN X0.here hx rfl (hb hby d12_0) rfl rfl kz) ?_
  obtain ⟨T266, X266, e266, st266⟩ := getF X0 hx hZ hown (host := "") (Or.inl (hw _ (List.mem_of_getElem? (i := 93) rfl))) Via.refl e0 u264_9 (g := (mkF m 1 #[rv b147, iv 1, .unset] [(.ref b147)])) rfl rfl (hb hby d12_1)
  refine Goes.by st266 ?_
  refine Goes.by (fun _ kz => XS.iloadN X266.here hx rfl (hb hby d12_4) rfl (XS.icmpNo X266.here hx rfl (hb hby d12_5) rfl (feq (by decide : ¬ ((0 : Int32) = (1 : Int32)))).1 (XS.iconst X266.here hx rfl (hb hby d12_8) kz))) ?_
  show Goes p e below (T266.setTop (mkF m 9 #[rv b147, iv 1, .unset] [(.int 1)])) _
  refine Goes.by (fun _ kz => XS.goto X266.here hx rfl (pc0 := 9) (pc' := 13) rfl (hb hby d12_9) (by decide) (by decide) (XS.istoreN X266.here hx rfl (hb hby d12_13) rfl (l' := #[rv b147, iv 1, iv 1]) rfl (XS.aloadN X266.here hx rfl (hb hby d12_14) rfl rfl kz))) ?_
  show Goes p e below (T266.setTop (mkF m 15 #[rv b147, iv 1, iv 1] [(.ref b147)])) _
  refine Goes.by (fun _ kz => XS.iloadN X266.here hx rfl (hb hby d12_15) rfl kz) ?_
  obtain ⟨T267, h267, X267, e267, W267, st267⟩ := putFN X266 hx hZ hown (hw _ (List.mem_of_getElem? (i := 93) rfl)) Via.refl e266 u264_9 u264_2 (Or.inl (hw _ (List.mem_of_getElem? (i := 94) rfl))) (hw _ (List.mem_of_getElem? (i := 1) rfl)) (ty := .boolean) (v' := (.int 1)) (by decide) rfl rfl (g := (mkF m 16 #[rv b147, iv 1, iv 1] [(.int 1), (.ref b147)])) rfl rfl (hb hby d12_16)
  have Fw267 := Fld.same W267 u264_9
  have K267 : Keep h0 h267 [b147] := Keep.wr (Keep.refl h0 [b147]) W267 (Or.inl (List.mem_of_getElem? (i := 0) rfl))
  have Z267 : n0 ≤ h267.size := Nat.le_trans Z0 (Keep.of_wr W267).1
  have N267 := Fr.snoc X267 N0 g_b147
  refine Goes.by st267 ?_
  refine Goes.by (fun _ kz => XS.iloadN X267.here hx rfl (hb hby d12_19) rfl kz) ?_
  show Goes p e below (T267.setTop (mkF m 20 #[rv b147, iv 1, iv 1] [(.int 1)])) _
  have f268 := (Fld.other W267 u264_6 (Or.inr (slot_ne (Or.inr (hw _ (List.mem_of_getElem? (i := 34) rfl))) (Or.inl (hw _ (List.mem_of_getElem? (i := 94) rfl))) (by decide) (t := (.object "java/util/List")) (t' := .boolean) (by decide) (by decide))))
  have f269 := (Fld.other W267 u264_7 (Or.inr (slot_ne (Or.inr (hw _ (List.mem_of_getElem? (i := 79) rfl))) (Or.inl (hw _ (List.mem_of_getElem? (i := 94) rfl))) (by decide) (t := (.object "java/util/List")) (t' := .boolean) (by decide) (by decide))))
  have f270 := (Fld.other W267 u264_8 (Or.inr (slot_ne (Or.inl (hw _ (List.mem_of_getElem? (i := 87) rfl))) (Or.inl (hw _ (List.mem_of_getElem? (i := 94) rfl))) (by decide) (t := (.object "java/util/Set")) (t' := .boolean) (by decide) (by decide))))
  obtain ⟨fs, hr, hrun, hended, hW, hsame⟩ := X267.leave (v := some (.int 1)) (fun h => by rw [Bd.returns] at h; cases h)
  exact ⟨_, _, retN X267 hx (t := .boolean) Bd.returns (by simp) (hb hby d12_20) hr, hrun, hended, _, _, rfl, (by rw [show (T267.setFrames fs).heap = h267 from e267]; exact ⟨rfl, N267, K267, f268, f269, f270, Fw267⟩), ⟨_, rfl⟩, hW, hsame.mono (by decide) (by decide)⟩
def Q_r11_271 (Z : State) (b147 : Addr) (h0 : Heap) (n0 : Nat) (v : Option Value) (h : Heap) (L : List Loc) : Prop := (v = some (.int 1) ∧ Fr n0 L ∧ h = h0)
set_option maxRecDepth 65536 in
set_option maxHeartbeats 40000000 in
theorem r11_271 (l : Launch) (Z : State) (a0 : Array Value) (hw : ∀ d ∈ tables_1, d.before a0 Z = true) (ws : List Jvm.Cond) (h0 : Heap) (n0 : Nat) (Z0 : n0 ≤ h0.size) (b147 : Addr) (u272_9 : Fld Z h0 b147 "com/example/entail/entail/model/EntrySettings" "blocks" "Z" (.int 1))  :
    MetFree l (⟨"com/example/entail/entail/model/EntrySettings", "blocks", "()Z"⟩ : MethodName) (head1 (Jvm.Cond.code (⟨"com/example/entail/entail/model/EntrySettings", "blocks", "()Z"⟩ : MethodName) prog_7_method_3_code 1 (some .boolean) :: ws) ({ frames := 0, cells := 0, slots := 0, locals := 0 } : Room)) (fun a U => a = #[(.ref b147)] ∧ Z.Warmed39 U.vm ∧ U.heap = h0) (fun _ _ _ _ _ => True) (fun _ U o U' => ∃ v L, o = .returned v ∧ Q_r11_271 Z b147 h0 n0 v U'.heap L ∧ FrameEnd U o U' L ({ frames := 0, cells := 0, slots := 0, locals := 0 } : Room).cells ({ frames := 0, cells := 0, slots := 0, locals := 0 } : Room).slots) := by
  refine MetFree.of_bodySF (plainFor_of_name pn8) hisR ?_
  intro p e s m args below meth c s₁ Bd hml0 hP hK
  obtain ⟨rfl, hZ, hh⟩ := hP
  have hx := Bd.exec
  have hby := Bd.bytes
  have hml : c.maxLocals = 1 := hml0
  have hown : s.vm.findClass "com/example/entail/entail/model/EntrySettings" = some m.cls := findClass_of_methodNamed Bd.named
  have hnm := (name_of_methodNamed Bd.named Bd.method).1
  have X0 : Stand p l e ({ frames := 0, cells := 0, slots := 0, locals := 0 } : Room) s m #[(.ref b147)] below meth c s₁ [] 0 0 := Stand.of_body Bd
  have e0 : s₁.heap = h0 := by rw [← hh, Bd.state]; rfl
  have N0 := Fr.nil n0
  refine Goes.out (Goes.by (fun tz kz => castTop (ef11_R m b147) kz) ?_)
  show Goes p e below (s₁.setTop (mkF m 0 #[rv b147] [])) _
  refine Goes.by (fun _ kz => XS.aloadN X0.here hx rfl (hb hby d11_0) rfl rfl kz) ?_
  obtain ⟨T274, X274, e274, st274⟩ := getF X0 hx hZ hown (host := "") (Or.inl (hw _ (List.mem_of_getElem? (i := 93) rfl))) Via.refl e0 u272_9 (g := (mkF m 1 #[rv b147] [(.ref b147)])) rfl rfl (hb hby d11_1)
  refine Goes.by st274 ?_
  show Goes p e below (T274.setTop (mkF m 4 #[rv b147] [(.int 1)])) _
  obtain ⟨fs, hr, hrun, hended, hW, hsame⟩ := X274.leave (v := some (.int 1)) (fun h => by rw [Bd.returns] at h; cases h)
  exact ⟨_, _, retN X274 hx (t := .boolean) Bd.returns (by simp) (hb hby d11_4) hr, hrun, hended, _, _, rfl, ⟨rfl, N0, e274⟩, ⟨_, rfl⟩, hW, hsame.mono (by decide) (by decide)⟩
def Q_r12_286 (Z : State) (q2 : Addr) (b147 : Addr) (b151_248 : Addr) (b183_202_248 : Addr) (h0 : Heap) (n0 : Nat) (v : Option Value) (h : Heap) (L : List Loc) : Prop := (v = some (.int 0) ∧ Fr n0 L ∧ Keep h0 h [b147] ∧ Fld Z h b147 "com/example/entail/entail/model/EntrySettings" "rules" "Ljava/util/List;" (.ref b151_248) ∧ Fld Z h b147 "com/example/entail/entail/model/EntrySettings" "rulesView" "Ljava/util/List;" (.ref b183_202_248) ∧ Fld Z h b147 "com/example/entail/entail/model/EntrySettings" "blockedTrusteesView" "Ljava/util/Set;" (.ref q2) ∧ Fld Z h b147 "com/example/entail/entail/model/EntrySettings" "blocks" "Z" (.int 0))
set_option maxRecDepth 65536 in
set_option maxHeartbeats 40000000 in
theorem r12_286 (l : Launch) (Z : State) (a0 : Array Value) (hw : ∀ d ∈ tables_1, d.before a0 Z = true) (ws : List Jvm.Cond) (h0 : Heap) (n0 : Nat) (Z0 : n0 ≤ h0.size) (q2 : Addr) (b147 : Addr) (b151_248 : Addr) (b183_202_248 : Addr) (u287_2 : Exa Z h0 b147 "com/example/entail/entail/model/EntrySettings") (u287_3 : Fld Z h0 b147 "com/example/entail/entail/model/EntrySettings" "rules" "Ljava/util/List;" (.ref b151_248)) (u287_4 : Fld Z h0 b147 "com/example/entail/entail/model/EntrySettings" "rulesView" "Ljava/util/List;" (.ref b183_202_248)) (u287_5 : Fld Z h0 b147 "com/example/entail/entail/model/EntrySettings" "blockedTrusteesView" "Ljava/util/Set;" (.ref q2)) (u287_6 : Fld Z h0 b147 "com/example/entail/entail/model/EntrySettings" "blocks" "Z" (.int 0)) (g_b147 : n0 ≤ b147) :
    MetFree l (⟨"com/example/entail/entail/model/EntrySettings", "setBlocks", "(Z)Z"⟩ : MethodName) (head1 (Jvm.Cond.code (⟨"com/example/entail/entail/model/EntrySettings", "setBlocks", "(Z)Z"⟩ : MethodName) prog_7_method_7_code 3 (some .boolean) :: ws) ({ frames := 0, cells := 0, slots := 0, locals := 0 } : Room)) (fun a U => a = #[(.ref b147), (.int 0)] ∧ Z.Warmed39 U.vm ∧ U.heap = h0) (fun _ _ _ _ _ => True) (fun _ U o U' => ∃ v L, o = .returned v ∧ Q_r12_286 Z q2 b147 b151_248 b183_202_248 h0 n0 v U'.heap L ∧ FrameEnd U o U' L ({ frames := 0, cells := 0, slots := 0, locals := 0 } : Room).cells ({ frames := 0, cells := 0, slots := 0, locals := 0 } : Room).slots) := by
  refine MetFree.of_bodySF (plainFor_of_name pn8) hisR ?_
  intro p e s m args below meth c s₁ Bd hml0 hP hK
  obtain ⟨rfl, hZ, hh⟩ := hP
  have hx := Bd.exec
  have hby := Bd.bytes
  have hml : c.maxLocals = 3 := hml0
  have hown : s.vm.findClass "com/example/entail/entail/model/EntrySettings" = some m.cls := findClass_of_methodNamed Bd.named
  have hnm := (name_of_methodNamed Bd.named Bd.method).1
  have X0 : Stand p l e ({ frames := 0, cells := 0, slots := 0, locals := 0 } : Room) s m #[(.ref b147), (.int 0)] below meth c s₁ [] 0 0 := Stand.of_body Bd
  have e0 : s₁.heap = h0 := by rw [← hh, Bd.state]; rfl
  have N0 := Fr.nil n0
  refine Goes.out (Goes.by (fun tz kz => castTop (ef12_RI m b147 ((0 : Int32))) kz) ?_)
  show Goes p e below (s₁.setTop (mkF m 0 #[rv b147, iv 0, .unset] [])) _
  refine Goes.by (fun _ kz => XS.aloadN X0.here hx rfl (hb hby d12_0) rfl rfl kz) ?_
  obtain ⟨T289, X289, e289, st289⟩ := getF X0 hx hZ hown (host := "") (Or.inl (hw _ (List.mem_of_getElem? (i := 93) rfl))) Via.refl e0 u287_6 (g := (mkF m 1 #[rv b147, iv 0, .unset] [(.ref b147)])) rfl rfl (hb hby d12_1)
  refine Goes.by st289 ?_
  refine Goes.by (fun _ kz => XS.iloadN X289.here hx rfl (hb hby d12_4) rfl (XS.icmpYes X289.here hx rfl (pc0 := 5) (pc' := 12) rfl (hb hby d12_5) rfl (teq (by decide : (0 : Int32) = (0 : Int32))).1 (by decide) (by decide) (XS.iconst X289.here hx rfl (hb hby d12_12) kz))) ?_
  show Goes p e below (T289.setTop (mkF m 13 #[rv b147, iv 0, .unset] [(.int 0)])) _
  refine Goes.by (fun _ kz => XS.istoreN X289.here hx rfl (hb hby d12_13) rfl (l' := #[rv b147, iv 0, iv 0]) rfl (XS.aloadN X289.here hx rfl (hb hby d12_14) rfl rfl (XS.iloadN X289.here hx rfl (hb hby d12_15) rfl kz))) ?_
  obtain ⟨T290, h290, X290, e290, W290, st290⟩ := putFN X289 hx hZ hown (hw _ (List.mem_of_getElem? (i := 93) rfl)) Via.refl e289 u287_6 u287_2 (Or.inl (hw _ (List.mem_of_getElem? (i := 94) rfl))) (hw _ (List.mem_of_getElem? (i := 1) rfl)) (ty := .boolean) (v' := (.int 0)) (by decide) rfl rfl (g := (mkF m 16 #[rv b147, iv 0, iv 0] [(.int 0), (.ref b147)])) rfl rfl (hb hby d12_16)
  have Fw290 := Fld.same W290 u287_6
  have K290 : Keep h0 h290 [b147] := Keep.wr (Keep.refl h0 [b147]) W290 (Or.inl (List.mem_of_getElem? (i := 0) rfl))
  have Z290 : n0 ≤ h290.size := Nat.le_trans Z0 (Keep.of_wr W290).1
  have N290 := Fr.snoc X290 N0 g_b147
  refine Goes.by st290 ?_
  refine Goes.by (fun _ kz => XS.iloadN X290.here hx rfl (hb hby d12_19) rfl kz) ?_
  show Goes p e below (T290.setTop (mkF m 20 #[rv b147, iv 0, iv 0] [(.int 0)])) _
  have f291 := (Fld.other W290 u287_3 (Or.inr (slot_ne (Or.inr (hw _ (List.mem_of_getElem? (i := 34) rfl))) (Or.inl (hw _ (List.mem_of_getElem? (i := 94) rfl))) (by decide) (t := (.object "java/util/List")) (t' := .boolean) (by decide) (by decide))))
  have f292 := (Fld.other W290 u287_4 (Or.inr (slot_ne (Or.inr (hw _ (List.mem_of_getElem? (i := 79) rfl))) (Or.inl (hw _ (List.mem_of_getElem? (i := 94) rfl))) (by decide) (t := (.object "java/util/List")) (t' := .boolean) (by decide) (by decide))))
  have f293 := (Fld.other W290 u287_5 (Or.inr (slot_ne (Or.inl (hw _ (List.mem_of_getElem? (i := 87) rfl))) (Or.inl (hw _ (List.mem_of_getElem? (i := 94) rfl))) (by decide) (t := (.object "java/util/Set")) (t' := .boolean) (by decide) (by decide))))
  obtain ⟨fs, hr, hrun, hended, hW, hsame⟩ := X290.leave (v := some (.int 0)) (fun h => by rw [Bd.returns] at h; cases h)
  exact ⟨_, _, retN X290 hx (t := .boolean) Bd.returns (by simp) (hb hby d12_20) hr, hrun, hended, _, _, rfl, (by rw [show (T290.setFrames fs).heap = h290 from e290]; exact ⟨rfl, N290, K290, f291, f292, f293, Fw290⟩), ⟨_, rfl⟩, hW, hsame.mono (by decide) (by decide)⟩
def Q_r12_296 (Z : State) (q2 : Addr) (b147 : Addr) (b151_248 : Addr) (b183_202_248 : Addr) (h0 : Heap) (n0 : Nat) (v : Option Value) (h : Heap) (L : List Loc) : Prop := (v = some (.int 1) ∧ Fr n0 L ∧ Keep h0 h [b147] ∧ Fld Z h b147 "com/example/entail/entail/model/EntrySettings" "rules" "Ljava/util/List;" (.ref b151_248) ∧ Fld Z h b147 "com/example/entail/entail/model/EntrySettings" "rulesView" "Ljava/util/List;" (.ref b183_202_248) ∧ Fld Z h b147 "com/example/entail/entail/model/EntrySettings" "blockedTrusteesView" "Ljava/util/Set;" (.ref q2) ∧ Fld Z h b147 "com/example/entail/entail/model/EntrySettings" "blocks" "Z" (.int 1))
set_option maxRecDepth 65536 in
set_option maxHeartbeats 40000000 in
theorem r12_296 (l : Launch) (Z : State) (a0 : Array Value) (hw : ∀ d ∈ tables_1, d.before a0 Z = true) (ws : List Jvm.Cond) (h0 : Heap) (n0 : Nat) (Z0 : n0 ≤ h0.size) (q2 : Addr) (b147 : Addr) (b151_248 : Addr) (b183_202_248 : Addr) (u297_2 : Exa Z h0 b147 "com/example/entail/entail/model/EntrySettings") (u297_9 : Fld Z h0 b147 "com/example/entail/entail/model/EntrySettings" "rules" "Ljava/util/List;" (.ref b151_248)) (u297_10 : Fld Z h0 b147 "com/example/entail/entail/model/EntrySettings" "rulesView" "Ljava/util/List;" (.ref b183_202_248)) (u297_11 : Fld Z h0 b147 "com/example/entail/entail/model/EntrySettings" "blockedTrusteesView" "Ljava/util/Set;" (.ref q2)) (u297_12 : Fld Z h0 b147 "com/example/entail/entail/model/EntrySettings" "blocks" "Z" (.int 0)) (g_b147 : n0 ≤ b147) :
    MetFree l (⟨"com/example/entail/entail/model/EntrySettings", "setBlocks", "(Z)Z"⟩ : MethodName) (head1 (Jvm.Cond.code (⟨"com/example/entail/entail/model/EntrySettings", "setBlocks", "(Z)Z"⟩ : MethodName) prog_7_method_7_code 3 (some .boolean) :: ws) ({ frames := 0, cells := 0, slots := 0, locals := 0 } : Room)) (fun a U => a = #[(.ref b147), (.int 1)] ∧ Z.Warmed39 U.vm ∧ U.heap = h0) (fun _ _ _ _ _ => True) (fun _ U o U' => ∃ v L, o = .returned v ∧ Q_r12_296 Z q2 b147 b151_248 b183_202_248 h0 n0 v U'.heap L ∧ FrameEnd U o U' L ({ frames := 0, cells := 0, slots := 0, locals := 0 } : Room).cells ({ frames := 0, cells := 0, slots := 0, locals := 0 } : Room).slots) := by
  refine MetFree.of_bodySF (plainFor_of_name pn8) hisR ?_
  intro p e s m args below meth c s₁ Bd hml0 hP hK
  obtain ⟨rfl, hZ, hh⟩ := hP
  have hx := Bd.exec
  have hby := Bd.bytes
  have hml : c.maxLocals = 3 := hml0
  have hown : s.vm.findClass "com/example/entail/entail/model/EntrySettings" = some m.cls := findClass_of_methodNamed Bd.named
  have hnm := (name_of_methodNamed Bd.named Bd.method).1
  have X0 : Stand p l e ({ frames := 0, cells := 0, slots := 0, locals := 0 } : Room) s m #[(.ref b147), (.int 1)] below meth c s₁ [] 0 0 := Stand.of_body Bd
  have e0 : s₁.heap = h0 := by rw [← hh, Bd.state]; rfl
  have N0 := Fr.nil n0
  refine Goes.out (Goes.by (fun tz kz => castTop (ef12_RI m b147 ((1 : Int32))) kz) ?_)
  show Goes p e below (s₁.setTop (mkF m 0 #[rv b147, iv 1, .unset] [])) _
  refine Goes.by (fun _ kz => XS.aloadN X0.here hx rfl (hb hby d12_0) rfl rfl kz) ?_
  obtain ⟨T299, X299, e299, st299⟩ := getF X0 hx hZ hown (host := "") (Or.inl (hw _ (List.mem_of_getElem? (i := 93) rfl))) Via.refl e0 u297_12 (g := (mkF m 1 #[rv b147, iv 1, .unset] [(.ref b147)])) rfl rfl (hb hby d12_1)
  refine Goes.by st299 ?_
  refine Goes.by (fun _ kz => XS.iloadN X299.here hx rfl (hb hby d12_4) rfl (XS.icmpNo X299.here hx rfl (hb hby d12_5) rfl (feq (by decide : ¬ ((0 : Int32) = (1 : Int32)))).1 (XS.iconst X299.here hx rfl (hb hby d12_8) kz))) ?_
  show Goes p e below (T299.setTop (mkF m 9 #[rv b147, iv 1, .unset] [(.int 1)])) _
  refine Goes.by (fun _ kz => XS.goto X299.here hx rfl (pc0 := 9) (pc' := 13) rfl (hb hby d12_9) (by decide) (by decide) (XS.istoreN X299.here hx rfl (hb hby d12_13) rfl (l' := #[rv b147, iv 1, iv 1]) rfl (XS.aloadN X299.here hx rfl (hb hby d12_14) rfl rfl kz))) ?_
  show Goes p e below (T299.setTop (mkF m 15 #[rv b147, iv 1, iv 1] [(.ref b147)])) _
  refine Goes.by (fun _ kz => XS.iloadN X299.here hx rfl (hb hby d12_15) rfl kz) ?_
  obtain ⟨T300, h300, X300, e300, W300, st300⟩ := putFN X299 hx hZ hown (hw _ (List.mem_of_getElem? (i := 93) rfl)) Via.refl e299 u297_12 u297_2 (Or.inl (hw _ (List.mem_of_getElem? (i := 94) rfl))) (hw _ (List.mem_of_getElem? (i := 1) rfl)) (ty := .boolean) (v' := (.int 1)) (by decide) rfl rfl (g := (mkF m 16 #[rv b147, iv 1, iv 1] [(.int 1), (.ref b147)])) rfl rfl (hb hby d12_16)
  have Fw300 := Fld.same W300 u297_12
  have K300 : Keep h0 h300 [b147] := Keep.wr (Keep.refl h0 [b147]) W300 (Or.inl (List.mem_of_getElem? (i := 0) rfl))
  have Z300 : n0 ≤ h300.size := Nat.le_trans Z0 (Keep.of_wr W300).1
  have N300 := Fr.snoc X300 N0 g_b147
  refine Goes.by st300 ?_
  refine Goes.by (fun _ kz => XS.iloadN X300.here hx rfl (hb hby d12_19) rfl kz) ?_
  show Goes p e below (T300.setTop (mkF m 20 #[rv b147, iv 1, iv 1] [(.int 1)])) _
  have f301 := (Fld.other W300 u297_9 (Or.inr (slot_ne (Or.inr (hw _ (List.mem_of_getElem? (i := 34) rfl))) (Or.inl (hw _ (List.mem_of_getElem? (i := 94) rfl))) (by decide) (t := (.object "java/util/List")) (t' := .boolean) (by decide) (by decide))))
  have f302 := (Fld.other W300 u297_10 (Or.inr (slot_ne (Or.inr (hw _ (List.mem_of_getElem? (i := 79) rfl))) (Or.inl (hw _ (List.mem_of_getElem? (i := 94) rfl))) (by decide) (t := (.object "java/util/List")) (t' := .boolean) (by decide) (by decide))))
  have f303 := (Fld.other W300 u297_11 (Or.inr (slot_ne (Or.inl (hw _ (List.mem_of_getElem? (i := 87) rfl))) (Or.inl (hw _ (List.mem_of_getElem? (i := 94) rfl))) (by decide) (t := (.object "java/util/Set")) (t' := .boolean) (by decide) (by decide))))
  obtain ⟨fs, hr, hrun, hended, hW, hsame⟩ := X300.leave (v := some (.int 1)) (fun h => by rw [Bd.returns] at h; cases h)
  exact ⟨_, _, retN X300 hx (t := .boolean) Bd.returns (by simp) (hb hby d12_20) hr, hrun, hended, _, _, rfl, (by rw [show (T300.setFrames fs).heap = h300 from e300]; exact ⟨rfl, N300, K300, f301, f302, f303, Fw300⟩), ⟨_, rfl⟩, hW, hsame.mono (by decide) (by decide)⟩
def Q_r5_315 (Z : State) (b311 : Addr) (h0 : Heap) (n0 : Nat) (v : Option Value) (h : Heap) (L : List Loc) : Prop := (v = none ∧ Fr n0 L ∧ h = h0)
set_option maxRecDepth 65536 in
set_option maxHeartbeats 40000000 in
theorem r5_315 (l : Launch) (Z : State) (a0 : Array Value) (hw : ∀ d ∈ tables_1, d.before a0 Z = true) (ws : List Jvm.Cond) (h0 : Heap) (n0 : Nat) (Z0 : n0 ≤ h0.size) (b311 : Addr)   :
    MetFree l (⟨"java/util/AbstractCollection", "<init>", "()V"⟩ : MethodName) (head1 (Jvm.Cond.code (⟨"java/util/AbstractCollection", "<init>", "()V"⟩ : MethodName) jdk_22_method_1_code 1 none :: ws) ({ frames := 1, cells := 0, slots := 0, locals := 12 } : Room)) (fun a U => a = #[(.ref b311)] ∧ Z.Warmed39 U.vm ∧ U.heap = h0) (fun _ _ _ _ _ => True) (fun _ U o U' => ∃ v L, o = .returned v ∧ Q_r5_315 Z b311 h0 n0 v U'.heap L ∧ FrameEnd U o U' L ({ frames := 1, cells := 0, slots := 0, locals := 12 } : Room).cells ({ frames := 1, cells := 0, slots := 0, locals := 12 } : Room).slots) := by
  refine MetFree.of_bodySF (plainFor_of_name pn0) hisR ?_
  intro p e s m args below meth c s₁ Bd hml0 hP hK
  obtain ⟨rfl, hZ, hh⟩ := hP
  have hx := Bd.exec
  have hby := Bd.bytes
  have hml : c.maxLocals = 1 := hml0
  have hown : s.vm.findClass "java/util/AbstractCollection" = some m.cls := findClass_of_methodNamed Bd.named
  have hnm := (name_of_methodNamed Bd.named Bd.method).1
  have X0 : Stand p l e ({ frames := 1, cells := 0, slots := 0, locals := 12 } : Room) s m #[(.ref b311)] below meth c s₁ [] 0 0 := Stand.of_body Bd
  have e0 : s₁.heap = h0 := by rw [← hh, Bd.state]; rfl
  have N0 := Fr.nil n0
  refine Goes.out (Goes.by (fun tz kz => castTop (ef5_R m b311) kz) ?_)
  show Goes p e below (s₁.setTop (mkF m 0 #[rv b311] [])) _
  refine Goes.by (fun _ kz => XS.aloadN X0.here hx rfl (hb hby d5_0) rfl rfl kz) ?_
  obtain ⟨T318, X318, e318, st318⟩ := initO X0 hx hZ hown (hw _ (List.mem_of_getElem? (i := 27) rfl)) (hw _ (List.mem_of_getElem? (i := 7) rfl)) (hw _ (List.mem_of_getElem? (i := 8) rfl)) e0 (g := (mkF m 1 #[rv b311] [(.ref b311)])) rfl (by rw [hml]; rfl) rfl (hb hby d5_1) (by decide) (W := 0) (by show 2 * 0 + _ ≤ _; exact Nat.le_of_eq rfl) (by decide)
  refine Goes.by st318 ?_
  show Goes p e below (T318.setTop (mkF m 4 #[rv b311] [])) _
  obtain ⟨fs, hr, hrun, hended, hW, hsame⟩ := X318.leave (v := none) (fun _ => rfl)
  exact ⟨_, _, X318.returnOut hx Bd.returns (hb hby d5_4) hr, hrun, hended, _, _, rfl, ⟨rfl, N0, e318⟩, ⟨_, rfl⟩, hW, hsame.mono (by decide) (by decide)⟩
def Q_r4_313 (Z : State) (b311 : Addr) (h0 : Heap) (n0 : Nat) (v : Option Value) (h : Heap) (L : List Loc) : Prop := (v = none ∧ Fr n0 L ∧ Keep h0 h [b311] ∧ Fld Z h b311 "java/util/AbstractList" "modCount" "I" (.int 0) ∧ Fld Z h b311 "java/util/ArrayList" "elementData" "[Ljava/lang/Object;" .null)
set_option maxRecDepth 65536 in
set_option maxHeartbeats 40000000 in
theorem r4_313 (l : Launch) (Z : State) (a0 : Array Value) (hw : ∀ d ∈ tables_1, d.before a0 Z = true) (ws : List Jvm.Cond) (h0 : Heap) (n0 : Nat) (Z0 : n0 ≤ h0.size) (b311 : Addr) (u314_7 : Exa Z h0 b311 "java/util/ArrayList") (u314_8 : Fld Z h0 b311 "java/util/AbstractList" "modCount" "I" (.int 0)) (u314_9 : Fld Z h0 b311 "java/util/ArrayList" "elementData" "[Ljava/lang/Object;" .null) (g_b311 : n0 ≤ b311) :
    MetFree l (⟨"java/util/AbstractList", "<init>", "()V"⟩ : MethodName) (head1 (Jvm.Cond.code (⟨"java/util/AbstractList", "<init>", "()V"⟩ : MethodName) jdk_39_method_1_code 1 none :: ws) ({ frames := 2, cells := 0, slots := 0, locals := 24 } : Room)) (fun a U => a = #[(.ref b311)] ∧ Z.Warmed39 U.vm ∧ U.heap = h0) (fun _ _ _ _ _ => True) (fun _ U o U' => ∃ v L, o = .returned v ∧ Q_r4_313 Z b311 h0 n0 v U'.heap L ∧ FrameEnd U o U' L ({ frames := 2, cells := 0, slots := 0, locals := 24 } : Room).cells ({ frames := 2, cells := 0, slots := 0, locals := 24 } : Room).slots) := by
  refine MetFree.of_bodySF (plainFor_of_name pn1) hisR ?_
  intro p e s m args below meth c s₁ Bd hml0 hP hK
  obtain ⟨rfl, hZ, hh⟩ := hP
  have hx := Bd.exec
  have hby := Bd.bytes
  have hml : c.maxLocals = 1 := hml0
  have hown : s.vm.findClass "java/util/AbstractList" = some m.cls := findClass_of_methodNamed Bd.named
  have hnm := (name_of_methodNamed Bd.named Bd.method).1
  have X0 : Stand p l e ({ frames := 2, cells := 0, slots := 0, locals := 24 } : Room) s m #[(.ref b311)] below meth c s₁ [] 0 0 := Stand.of_body Bd
  have e0 : s₁.heap = h0 := by rw [← hh, Bd.state]; rfl
  have N0 := Fr.nil n0
  refine Goes.out (Goes.by (fun tz kz => castTop (ef4_R m b311) kz) ?_)
  show Goes p e below (s₁.setTop (mkF m 0 #[rv b311] [])) _
  refine Goes.by (fun _ kz => XS.aloadN X0.here hx rfl (hb hby d4_0) rfl rfl kz) ?_
  obtain ⟨_, _, ⟨T319, L319, k319, n319⟩, -, X319, ⟨Lc319, hQ319, l319, y319, z319⟩, st319⟩ := X0.specialBack hx (y := (⟨"java/util/AbstractCollection", "<init>", "()V"⟩ : MethodName)) rfl hown (mvT hZ (hw _ (List.mem_of_getElem? (i := 21) rfl))) (mvT hZ (hw _ (List.mem_of_getElem? (i := 22) rfl))) (mvT hZ (hw _ (List.mem_of_getElem? (i := 26) rfl))) (by decide) (backOf (W := 0) (r5_315 l Z a0 hw [] h0 n0 Z0 b311) hZ (hw _ (List.mem_of_getElem? (i := 26) rfl)) (hw _ (List.mem_of_getElem? (i := 25) rfl)) (by decide) (by decide)) (g := (mkF m 1 #[rv b311] [(.ref b311)])) rfl (by rw [hml]; rfl) (Steps.refl _) (a := b311) (argsL := []) (rest := []) (lenOf pd0 rfl) rfl (by show 2 * 0 + _ ≤ _; exact Nat.le_of_eq rfl) (hb hby d4_1) (fun _ _ => ⟨rfl, e0, (by decide : 0 + 0 ≤ _), (by decide : 0 + 0 ≤ _)⟩)
  dsimp only [Pt.U, Pt.locs, Pt.cells, Pt.slots] at X319 l319 y319 z319 st319 hQ319
  subst l319 y319 z319
  obtain ⟨rfl, Nq319, e319⟩ := hQ319
  have N319 := Fr.app N0 Nq319
  refine Goes.tr st319 ?_
  refine Goes.by (fun _ kz => XS.aloadN X319.here hx rfl (hb hby d4_4) rfl rfl (XS.iconst X319.here hx rfl (hb hby d4_5) kz)) ?_
  obtain ⟨T320, h320, X320, e320, W320, st320⟩ := putF X319 hx hZ hown (host := "") (Or.inl (hw _ (List.mem_of_getElem? (i := 28) rfl))) Via.refl e319 u314_8 u314_7 (Or.inl (hw _ (List.mem_of_getElem? (i := 29) rfl))) (hw _ (List.mem_of_getElem? (i := 10) rfl)) (ty := .int) (by decide) rfl rfl (g := (mkF m 6 #[rv b311] [(.int 0), (.ref b311)])) rfl rfl (hb hby d4_6)
  have Fw320 := Fld.same W320 u314_8
  have K320 : Keep h0 h320 [b311] := Keep.wr (Keep.refl h0 [b311]) W320 (Or.inl (List.mem_of_getElem? (i := 0) rfl))
  have Z320 : n0 ≤ h320.size := Nat.le_trans Z0 (Keep.of_wr W320).1
  have N320 := Fr.snoc X320 N319 g_b311
  refine Goes.by st320 ?_
  show Goes p e below (T320.setTop (mkF m 9 #[rv b311] [])) _
  have f321 := (Fld.other W320 u314_9 (Or.inr (slot_ne (Or.inl (hw _ (List.mem_of_getElem? (i := 32) rfl))) (Or.inl (hw _ (List.mem_of_getElem? (i := 29) rfl))) (by decide) (t := (.array (.object "java/lang/Object"))) (t' := .int) (by decide) (by decide))))
  obtain ⟨fs, hr, hrun, hended, hW, hsame⟩ := X320.leave (v := none) (fun _ => rfl)
  exact ⟨_, _, X320.returnOut hx Bd.returns (hb hby d4_9) hr, hrun, hended, _, _, rfl, (by rw [show (T320.setFrames fs).heap = h320 from e320]; exact ⟨rfl, N320, K320, Fw320, f321⟩), ⟨_, rfl⟩, hW, hsame.mono (by decide) (by decide)⟩
def Q_r3_311 (Z : State) (q1 : Addr) (b311 : Addr) (h0 : Heap) (n0 : Nat) (v : Option Value) (h : Heap) (L : List Loc) : Prop := (v = none ∧ Fr n0 L ∧ Keep h0 h [b311] ∧ Fld Z h b311 "java/util/AbstractList" "modCount" "I" (.int 0) ∧ Fld Z h b311 "java/util/ArrayList" "elementData" "[Ljava/lang/Object;" (.ref q1))
set_option maxRecDepth 65536 in
set_option maxHeartbeats 40000000 in
theorem r3_311 (l : Launch) (Z : State) (a0 : Array Value) (hw : ∀ d ∈ tables_1, d.before a0 Z = true) (ws : List Jvm.Cond) (h0 : Heap) (n0 : Nat) (Z0 : n0 ≤ h0.size) (q1 : Addr) (b311 : Addr) (u312_0 : Sta Z h0 "java/util/ArrayList" "DEFAULTCAPACITY_EMPTY_ELEMENTDATA" "[Ljava/lang/Object;" (.ref q1)) (u312_7 : Exa Z h0 b311 "java/util/ArrayList") (u312_8 : Fld Z h0 b311 "java/util/AbstractList" "modCount" "I" (.int 0)) (u312_9 : Fld Z h0 b311 "java/util/ArrayList" "elementData" "[Ljava/lang/Object;" .null) (g_b311 : n0 ≤ b311) :
    MetFree l (⟨"java/util/ArrayList", "<init>", "()V"⟩ : MethodName) (head1 (Jvm.Cond.code (⟨"java/util/ArrayList", "<init>", "()V"⟩ : MethodName) jdk_38_method_2_code 1 none :: ws) ({ frames := 3, cells := 0, slots := 0, locals := 36 } : Room)) (fun a U => a = #[(.ref b311)] ∧ Z.Warmed39 U.vm ∧ U.heap = h0) (fun _ _ _ _ _ => True) (fun _ U o U' => ∃ v L, o = .returned v ∧ Q_r3_311 Z q1 b311 h0 n0 v U'.heap L ∧ FrameEnd U o U' L ({ frames := 3, cells := 0, slots := 0, locals := 36 } : Room).cells ({ frames := 3, cells := 0, slots := 0, locals := 36 } : Room).slots) := by
  refine MetFree.of_bodySF (plainFor_of_name pn2) hisR ?_
  intro p e s m args below meth c s₁ Bd hml0 hP hK
  obtain ⟨rfl, hZ, hh⟩ := hP
  have hx := Bd.exec
  have hby := Bd.bytes
  have hml : c.maxLocals = 1 := hml0
  have hown : s.vm.findClass "java/util/ArrayList" = some m.cls := findClass_of_methodNamed Bd.named
  have hnm := (name_of_methodNamed Bd.named Bd.method).1
  have X0 : Stand p l e ({ frames := 3, cells := 0, slots := 0, locals := 36 } : Room) s m #[(.ref b311)] below meth c s₁ [] 0 0 := Stand.of_body Bd
  have e0 : s₁.heap = h0 := by rw [← hh, Bd.state]; rfl
  have N0 := Fr.nil n0
  refine Goes.out (Goes.by (fun tz kz => castTop (ef3_R m b311) kz) ?_)
  show Goes p e below (s₁.setTop (mkF m 0 #[rv b311] [])) _
  refine Goes.by (fun _ kz => XS.aloadN X0.here hx rfl (hb hby d3_0) rfl rfl kz) ?_
  obtain ⟨_, _, ⟨T322, L322, k322, n322⟩, -, X322, ⟨Lc322, hQ322, l322, y322, z322⟩, st322⟩ := X0.specialBack hx (y := (⟨"java/util/AbstractList", "<init>", "()V"⟩ : MethodName)) rfl hown (mvT hZ (hw _ (List.mem_of_getElem? (i := 15) rfl))) (mvT hZ (hw _ (List.mem_of_getElem? (i := 16) rfl))) (mvT hZ (hw _ (List.mem_of_getElem? (i := 20) rfl))) (by decide) (backOf (W := 0) (r4_313 l Z a0 hw [] h0 n0 Z0 b311 u312_7 u312_8 u312_9 g_b311) hZ (hw _ (List.mem_of_getElem? (i := 20) rfl)) (hw _ (List.mem_of_getElem? (i := 19) rfl)) (by decide) (by decide)) (g := (mkF m 1 #[rv b311] [(.ref b311)])) rfl (by rw [hml]; rfl) (Steps.refl _) (a := b311) (argsL := []) (rest := []) (lenOf pd0 rfl) rfl (by show 2 * 0 + _ ≤ _; exact Nat.le_of_eq rfl) (hb hby d3_1) (fun _ _ => ⟨rfl, e0, (by decide : 0 + 0 ≤ _), (by decide : 0 + 0 ≤ _)⟩)
  dsimp only [Pt.U, Pt.locs, Pt.cells, Pt.slots] at X322 l322 y322 z322 st322 hQ322
  subst l322 y322 z322
  obtain ⟨rfl, Nq322, Kq322, fq322_0, fq322_1⟩ := hQ322
  have K322 : Keep h0 T322.heap [b311] := Keep.trans (Keep.refl h0 [b311]) Kq322 (allS (Or.inl (List.mem_of_getElem? (i := 0) rfl)) all0)
  have Z322 : n0 ≤ T322.heap.size := Nat.le_trans Z0 Kq322.1
  have N322 := Fr.app N0 Nq322
  refine Goes.tr st322 ?_
  refine Goes.by (fun _ kz => XS.aloadN X322.here hx rfl (hb hby d3_4) rfl rfl kz) ?_
  have f323 := (own_staKeep u312_0 Kq322 (allS (own_nsE u312_7) all0))
  obtain ⟨T324, X324, e324, st324⟩ := getS2 X322 hx hZ hown (host := "") (Or.inl (hw _ (List.mem_of_getElem? (i := 30) rfl))) Via.refl rfl f323 (g := (mkF m 5 #[rv b311] [(.ref b311)])) rfl (hb hby d3_5)
  refine Goes.by st324 ?_
  have f325 := (u312_7.keep Kq322)
  obtain ⟨T326, h326, X326, e326, W326, st326⟩ := putF X324 hx hZ hown (host := "") (Or.inl (hw _ (List.mem_of_getElem? (i := 31) rfl))) Via.refl e324 fq322_1 f325 (Or.inl (hw _ (List.mem_of_getElem? (i := 32) rfl))) (hw _ (List.mem_of_getElem? (i := 10) rfl)) (ty := (.array (.object "java/lang/Object"))) (by decide) rfl rfl (g := (mkF m 8 #[rv b311] [(.ref q1), (.ref b311)])) rfl rfl (hb hby d3_8)
  have Fw326 := Fld.same W326 fq322_1
  have K326 : Keep h0 h326 [b311] := Keep.wr K322 W326 (Or.inl (List.mem_of_getElem? (i := 0) rfl))
  have Z326 : n0 ≤ h326.size := Nat.le_trans Z322 (Keep.of_wr W326).1
  have N326 := Fr.snoc X326 N322 g_b311
  refine Goes.by st326 ?_
  show Goes p e below (T326.setTop (mkF m 11 #[rv b311] [])) _
  have f327 := (Fld.other W326 fq322_0 (Or.inr (slot_ne (Or.inl (hw _ (List.mem_of_getElem? (i := 29) rfl))) (Or.inl (hw _ (List.mem_of_getElem? (i := 32) rfl))) (by decide) (t := .int) (t' := (.array (.object "java/lang/Object"))) (by decide) (by decide))))
  obtain ⟨fs, hr, hrun, hended, hW, hsame⟩ := X326.leave (v := none) (fun _ => rfl)
  exact ⟨_, _, X326.returnOut hx Bd.returns (hb hby d3_11) hr, hrun, hended, _, _, rfl, (by rw [show (T326.setFrames fs).heap = h326 from e326]; exact ⟨rfl, N326, K326, f327, Fw326⟩), ⟨_, rfl⟩, hW, hsame.mono (by decide) (by decide)⟩
def Q_r9_347 (Z : State) (b311 : Addr) (b343 : Addr) (h0 : Heap) (n0 : Nat) (v : Option Value) (h : Heap) (L : List Loc) : Prop := (v = none ∧ Fr n0 L ∧ Keep h0 h [b343] ∧ Fld Z h b343 "java/util/Collections$UnmodifiableCollection" "c" "Ljava/util/Collection;" (.ref b311) ∧ Fld Z h b343 "java/util/Collections$UnmodifiableList" "list" "Ljava/util/List;" .null)
set_option maxRecDepth 65536 in
set_option maxHeartbeats 40000000 in
theorem r9_347 (l : Launch) (Z : State) (a0 : Array Value) (hw : ∀ d ∈ tables_1, d.before a0 Z = true) (ws : List Jvm.Cond) (h0 : Heap) (n0 : Nat) (Z0 : n0 ≤ h0.size) (b311 : Addr) (b343 : Addr) (u348_10 : Exa Z h0 b343 "java/util/Collections$UnmodifiableRandomAccessList") (u348_11 : Fld Z h0 b343 "java/util/Collections$UnmodifiableCollection" "c" "Ljava/util/Collection;" .null) (u348_12 : Fld Z h0 b343 "java/util/Collections$UnmodifiableList" "list" "Ljava/util/List;" .null) (g_b343 : n0 ≤ b343) :
    MetFree l (⟨"java/util/Collections$UnmodifiableCollection", "<init>", "(Ljava/util/Collection;)V"⟩ : MethodName) (head1 (Jvm.Cond.code (⟨"java/util/Collections$UnmodifiableCollection", "<init>", "(Ljava/util/Collection;)V"⟩ : MethodName) jdk_119_method_1_code 2 none :: ws) ({ frames := 1, cells := 0, slots := 0, locals := 12 } : Room)) (fun a U => a = #[(.ref b343), (.ref b311)] ∧ Z.Warmed39 U.vm ∧ U.heap = h0) (fun _ _ _ _ _ => True) (fun _ U o U' => ∃ v L, o = .returned v ∧ Q_r9_347 Z b311 b343 h0 n0 v U'.heap L ∧ FrameEnd U o U' L ({ frames := 1, cells := 0, slots := 0, locals := 12 } : Room).cells ({ frames := 1, cells := 0, slots := 0, locals := 12 } : Room).slots) := by
  refine MetFree.of_bodySF (plainFor_of_name pn3) hisR ?_
  intro p e s m args below meth c s₁ Bd hml0 hP hK
  obtain ⟨rfl, hZ, hh⟩ := hP
  have hx := Bd.exec
  have hby := Bd.bytes
  have hml : c.maxLocals = 2 := hml0
  have hown : s.vm.findClass "java/util/Collections$UnmodifiableCollection" = some m.cls := findClass_of_methodNamed Bd.named
  have hnm := (name_of_methodNamed Bd.named Bd.method).1
  have X0 : Stand p l e ({ frames := 1, cells := 0, slots := 0, locals := 12 } : Room) s m #[(.ref b343), (.ref b311)] below meth c s₁ [] 0 0 := Stand.of_body Bd
  have e0 : s₁.heap = h0 := by rw [← hh, Bd.state]; rfl
  have N0 := Fr.nil n0
  refine Goes.out (Goes.by (fun tz kz => castTop (ef9_RR m b343 b311) kz) ?_)
  show Goes p e below (s₁.setTop (mkF m 0 #[rv b343, rv b311] [])) _
  refine Goes.by (fun _ kz => XS.aloadN X0.here hx rfl (hb hby d9_0) rfl rfl kz) ?_
  obtain ⟨T350, X350, e350, st350⟩ := initO X0 hx hZ hown (hw _ (List.mem_of_getElem? (i := 73) rfl)) (hw _ (List.mem_of_getElem? (i := 7) rfl)) (hw _ (List.mem_of_getElem? (i := 8) rfl)) e0 (g := (mkF m 1 #[rv b343, rv b311] [(.ref b343)])) rfl (by rw [hml]; rfl) rfl (hb hby d9_1) (by decide) (W := 0) (by show 2 * 0 + _ ≤ _; exact Nat.le_of_eq rfl) (by decide)
  refine Goes.by st350 ?_
  refine Goes.by (fun _ kz => XS.aloadN X350.here hx rfl (hb hby d9_4) rfl rfl (XS.ifnonnullYes X350.here hx rfl (pc0 := 5) (pc' := 16) rfl (hb hby d9_5) rfl (by decide) (by decide) (XS.aloadN X350.here hx rfl (hb hby d9_16) rfl rfl kz))) ?_
  show Goes p e below (T350.setTop (mkF m 17 #[rv b343, rv b311] [(.ref b343)])) _
  refine Goes.by (fun _ kz => XS.aloadN X350.here hx rfl (hb hby d9_17) rfl rfl kz) ?_
  obtain ⟨T351, h351, X351, e351, W351, st351⟩ := putF X350 hx hZ hown (host := "") (Or.inl (hw _ (List.mem_of_getElem? (i := 74) rfl))) Via.refl e350 u348_11 u348_10 (Or.inr ⟨(hw _ (List.mem_of_getElem? (i := 75) rfl)), rfl, hnm⟩) (hw _ (List.mem_of_getElem? (i := 56) rfl)) (ty := (.object "java/util/Collection")) (by decide) rfl rfl (g := (mkF m 18 #[rv b343, rv b311] [(.ref b311), (.ref b343)])) rfl rfl (hb hby d9_18)
  have Fw351 := Fld.same W351 u348_11
  have K351 : Keep h0 h351 [b343] := Keep.wr (Keep.refl h0 [b343]) W351 (Or.inl (List.mem_of_getElem? (i := 0) rfl))
  have Z351 : n0 ≤ h351.size := Nat.le_trans Z0 (Keep.of_wr W351).1
  have N351 := Fr.snoc X351 N0 g_b343
  refine Goes.by st351 ?_
  show Goes p e below (T351.setTop (mkF m 21 #[rv b343, rv b311] [])) _
  have f352 := (Fld.other W351 u348_12 (Or.inr (slot_ne (Or.inr (hw _ (List.mem_of_getElem? (i := 77) rfl))) (Or.inr (hw _ (List.mem_of_getElem? (i := 75) rfl))) (by decide) (t := (.object "java/util/List")) (t' := (.object "java/util/Collection")) (by decide) (by decide))))
  obtain ⟨fs, hr, hrun, hended, hW, hsame⟩ := X351.leave (v := none) (fun _ => rfl)
  exact ⟨_, _, X351.returnOut hx Bd.returns (hb hby d9_21) hr, hrun, hended, _, _, rfl, (by rw [show (T351.setFrames fs).heap = h351 from e351]; exact ⟨rfl, N351, K351, Fw351, f352⟩), ⟨_, rfl⟩, hW, hsame.mono (by decide) (by decide)⟩
def Q_r8_345 (Z : State) (b311 : Addr) (b343 : Addr) (h0 : Heap) (n0 : Nat) (v : Option Value) (h : Heap) (L : List Loc) : Prop := (v = none ∧ Fr n0 L ∧ Keep h0 h [b343] ∧ Fld Z h b343 "java/util/Collections$UnmodifiableCollection" "c" "Ljava/util/Collection;" (.ref b311) ∧ Fld Z h b343 "java/util/Collections$UnmodifiableList" "list" "Ljava/util/List;" (.ref b311))
set_option maxRecDepth 65536 in
set_option maxHeartbeats 40000000 in
theorem r8_345 (l : Launch) (Z : State) (a0 : Array Value) (hw : ∀ d ∈ tables_1, d.before a0 Z = true) (ws : List Jvm.Cond) (h0 : Heap) (n0 : Nat) (Z0 : n0 ≤ h0.size) (b311 : Addr) (b343 : Addr) (u346_10 : Exa Z h0 b343 "java/util/Collections$UnmodifiableRandomAccessList") (u346_11 : Fld Z h0 b343 "java/util/Collections$UnmodifiableCollection" "c" "Ljava/util/Collection;" .null) (u346_12 : Fld Z h0 b343 "java/util/Collections$UnmodifiableList" "list" "Ljava/util/List;" .null) (g_b343 : n0 ≤ b343) :
    MetFree l (⟨"java/util/Collections$UnmodifiableList", "<init>", "(Ljava/util/List;)V"⟩ : MethodName) (head1 (Jvm.Cond.code (⟨"java/util/Collections$UnmodifiableList", "<init>", "(Ljava/util/List;)V"⟩ : MethodName) jdk_120_method_1_code 2 none :: ws) ({ frames := 2, cells := 0, slots := 0, locals := 25 } : Room)) (fun a U => a = #[(.ref b343), (.ref b311)] ∧ Z.Warmed39 U.vm ∧ U.heap = h0) (fun _ _ _ _ _ => True) (fun _ U o U' => ∃ v L, o = .returned v ∧ Q_r8_345 Z b311 b343 h0 n0 v U'.heap L ∧ FrameEnd U o U' L ({ frames := 2, cells := 0, slots := 0, locals := 25 } : Room).cells ({ frames := 2, cells := 0, slots := 0, locals := 25 } : Room).slots) := by
  refine MetFree.of_bodySF (plainFor_of_name pn4) hisR ?_
  intro p e s m args below meth c s₁ Bd hml0 hP hK
  obtain ⟨rfl, hZ, hh⟩ := hP
  have hx := Bd.exec
  have hby := Bd.bytes
  have hml : c.maxLocals = 2 := hml0
  have hown : s.vm.findClass "java/util/Collections$UnmodifiableList" = some m.cls := findClass_of_methodNamed Bd.named
  have hnm := (name_of_methodNamed Bd.named Bd.method).1
  have X0 : Stand p l e ({ frames := 2, cells := 0, slots := 0, locals := 25 } : Room) s m #[(.ref b343), (.ref b311)] below meth c s₁ [] 0 0 := Stand.of_body Bd
  have e0 : s₁.heap = h0 := by rw [← hh, Bd.state]; rfl
  have N0 := Fr.nil n0
  refine Goes.out (Goes.by (fun tz kz => castTop (ef8_RR m b343 b311) kz) ?_)
  show Goes p e below (s₁.setTop (mkF m 0 #[rv b343, rv b311] [])) _
  refine Goes.by (fun _ kz => XS.aloadN X0.here hx rfl (hb hby d8_0) rfl rfl (XS.aloadN X0.here hx rfl (hb hby d8_1) rfl rfl kz)) ?_
  obtain ⟨_, _, ⟨T353, L353, k353, n353⟩, -, X353, ⟨Lc353, hQ353, l353, y353, z353⟩, st353⟩ := X0.specialBack hx (y := (⟨"java/util/Collections$UnmodifiableCollection", "<init>", "(Ljava/util/Collection;)V"⟩ : MethodName)) rfl hown (mvT hZ (hw _ (List.mem_of_getElem? (i := 67) rfl))) (mvT hZ (hw _ (List.mem_of_getElem? (i := 68) rfl))) (mvT hZ (hw _ (List.mem_of_getElem? (i := 72) rfl))) (by decide) (backOf (W := 0) (r9_347 l Z a0 hw [] h0 n0 Z0 b311 b343 u346_10 u346_11 u346_12 g_b343) hZ (hw _ (List.mem_of_getElem? (i := 72) rfl)) (hw _ (List.mem_of_getElem? (i := 71) rfl)) (by decide) (by decide)) (g := (mkF m 2 #[rv b343, rv b311] [(.ref b311), (.ref b343)])) rfl (by rw [hml]; rfl) (Steps.refl _) (a := b343) (argsL := [(.ref b311)]) (rest := []) (lenOf pd1 rfl) rfl (by show 2 * 0 + _ ≤ _; exact Nat.le_of_eq rfl) (hb hby d8_2) (fun _ _ => ⟨rfl, e0, (by decide : 0 + 0 ≤ _), (by decide : 0 + 0 ≤ _)⟩)
  dsimp only [Pt.U, Pt.locs, Pt.cells, Pt.slots] at X353 l353 y353 z353 st353 hQ353
  subst l353 y353 z353
  obtain ⟨rfl, Nq353, Kq353, fq353_0, fq353_1⟩ := hQ353
  have K353 : Keep h0 T353.heap [b343] := Keep.trans (Keep.refl h0 [b343]) Kq353 (allS (Or.inl (List.mem_of_getElem? (i := 0) rfl)) all0)
  have Z353 : n0 ≤ T353.heap.size := Nat.le_trans Z0 Kq353.1
  have N353 := Fr.app N0 Nq353
  refine Goes.tr st353 ?_
  refine Goes.by (fun _ kz => XS.aloadN X353.here hx rfl (hb hby d8_5) rfl rfl (XS.aloadN X353.here hx rfl (hb hby d8_6) rfl rfl kz)) ?_
  have f354 := (u346_10.keep Kq353)
  obtain ⟨T355, h355, X355, e355, W355, st355⟩ := putF X353 hx hZ hown (host := "") (Or.inl (hw _ (List.mem_of_getElem? (i := 76) rfl))) Via.refl rfl fq353_1 f354 (Or.inr ⟨(hw _ (List.mem_of_getElem? (i := 77) rfl)), rfl, hnm⟩) (hw _ (List.mem_of_getElem? (i := 56) rfl)) (ty := (.object "java/util/List")) (by decide) rfl rfl (g := (mkF m 7 #[rv b343, rv b311] [(.ref b311), (.ref b343)])) rfl rfl (hb hby d8_7)
  have Fw355 := Fld.same W355 fq353_1
  have K355 : Keep h0 h355 [b343] := Keep.wr K353 W355 (Or.inl (List.mem_of_getElem? (i := 0) rfl))
  have Z355 : n0 ≤ h355.size := Nat.le_trans Z353 (Keep.of_wr W355).1
  have N355 := Fr.snoc X355 N353 g_b343
  refine Goes.by st355 ?_
  show Goes p e below (T355.setTop (mkF m 10 #[rv b343, rv b311] [])) _
  have f356 := (Fld.other W355 fq353_0 (Or.inr (slot_ne (Or.inr (hw _ (List.mem_of_getElem? (i := 75) rfl))) (Or.inr (hw _ (List.mem_of_getElem? (i := 77) rfl))) (by decide) (t := (.object "java/util/Collection")) (t' := (.object "java/util/List")) (by decide) (by decide))))
  obtain ⟨fs, hr, hrun, hended, hW, hsame⟩ := X355.leave (v := none) (fun _ => rfl)
  exact ⟨_, _, X355.returnOut hx Bd.returns (hb hby d8_10) hr, hrun, hended, _, _, rfl, (by rw [show (T355.setFrames fs).heap = h355 from e355]; exact ⟨rfl, N355, K355, f356, Fw355⟩), ⟨_, rfl⟩, hW, hsame.mono (by decide) (by decide)⟩
def Q_r7_343 (Z : State) (b311 : Addr) (b343 : Addr) (h0 : Heap) (n0 : Nat) (v : Option Value) (h : Heap) (L : List Loc) : Prop := (v = none ∧ Fr n0 L ∧ Keep h0 h [b343] ∧ Fld Z h b343 "java/util/Collections$UnmodifiableCollection" "c" "Ljava/util/Collection;" (.ref b311) ∧ Fld Z h b343 "java/util/Collections$UnmodifiableList" "list" "Ljava/util/List;" (.ref b311))
set_option maxRecDepth 65536 in
set_option maxHeartbeats 40000000 in
theorem r7_343 (l : Launch) (Z : State) (a0 : Array Value) (hw : ∀ d ∈ tables_1, d.before a0 Z = true) (ws : List Jvm.Cond) (h0 : Heap) (n0 : Nat) (Z0 : n0 ≤ h0.size) (b311 : Addr) (b343 : Addr) (u344_10 : Exa Z h0 b343 "java/util/Collections$UnmodifiableRandomAccessList") (u344_11 : Fld Z h0 b343 "java/util/Collections$UnmodifiableCollection" "c" "Ljava/util/Collection;" .null) (u344_12 : Fld Z h0 b343 "java/util/Collections$UnmodifiableList" "list" "Ljava/util/List;" .null) (g_b343 : n0 ≤ b343) :
    MetFree l (⟨"java/util/Collections$UnmodifiableRandomAccessList", "<init>", "(Ljava/util/List;)V"⟩ : MethodName) (head1 (Jvm.Cond.code (⟨"java/util/Collections$UnmodifiableRandomAccessList", "<init>", "(Ljava/util/List;)V"⟩ : MethodName) jdk_121_method_1_code 2 none :: ws) ({ frames := 3, cells := 0, slots := 0, locals := 38 } : Room)) (fun a U => a = #[(.ref b343), (.ref b311)] ∧ Z.Warmed39 U.vm ∧ U.heap = h0) (fun _ _ _ _ _ => True) (fun _ U o U' => ∃ v L, o = .returned v ∧ Q_r7_343 Z b311 b343 h0 n0 v U'.heap L ∧ FrameEnd U o U' L ({ frames := 3, cells := 0, slots := 0, locals := 38 } : Room).cells ({ frames := 3, cells := 0, slots := 0, locals := 38 } : Room).slots) := by
  refine MetFree.of_bodySF (plainFor_of_name pn5) hisR ?_
  intro p e s m args below meth c s₁ Bd hml0 hP hK
  obtain ⟨rfl, hZ, hh⟩ := hP
  have hx := Bd.exec
  have hby := Bd.bytes
  have hml : c.maxLocals = 2 := hml0
  have hown : s.vm.findClass "java/util/Collections$UnmodifiableRandomAccessList" = some m.cls := findClass_of_methodNamed Bd.named
  have hnm := (name_of_methodNamed Bd.named Bd.method).1
  have X0 : Stand p l e ({ frames := 3, cells := 0, slots := 0, locals := 38 } : Room) s m #[(.ref b343), (.ref b311)] below meth c s₁ [] 0 0 := Stand.of_body Bd
  have e0 : s₁.heap = h0 := by rw [← hh, Bd.state]; rfl
  have N0 := Fr.nil n0
  refine Goes.out (Goes.by (fun tz kz => castTop (ef7_RR m b343 b311) kz) ?_)
  show Goes p e below (s₁.setTop (mkF m 0 #[rv b343, rv b311] [])) _
  refine Goes.by (fun _ kz => XS.aloadN X0.here hx rfl (hb hby d7_0) rfl rfl (XS.aloadN X0.here hx rfl (hb hby d7_1) rfl rfl kz)) ?_
  obtain ⟨_, _, ⟨T357, L357, k357, n357⟩, -, X357, ⟨Lc357, hQ357, l357, y357, z357⟩, st357⟩ := X0.specialBack hx (y := (⟨"java/util/Collections$UnmodifiableList", "<init>", "(Ljava/util/List;)V"⟩ : MethodName)) rfl hown (mvT hZ (hw _ (List.mem_of_getElem? (i := 61) rfl))) (mvT hZ (hw _ (List.mem_of_getElem? (i := 62) rfl))) (mvT hZ (hw _ (List.mem_of_getElem? (i := 66) rfl))) (by decide) (backOf (W := 0) (r8_345 l Z a0 hw [] h0 n0 Z0 b311 b343 u344_10 u344_11 u344_12 g_b343) hZ (hw _ (List.mem_of_getElem? (i := 66) rfl)) (hw _ (List.mem_of_getElem? (i := 65) rfl)) (by decide) (by decide)) (g := (mkF m 2 #[rv b343, rv b311] [(.ref b311), (.ref b343)])) rfl (by rw [hml]; rfl) (Steps.refl _) (a := b343) (argsL := [(.ref b311)]) (rest := []) (lenOf pd2 rfl) rfl (by show 2 * 0 + _ ≤ _; exact Nat.le_of_eq rfl) (hb hby d7_2) (fun _ _ => ⟨rfl, e0, (by decide : 0 + 0 ≤ _), (by decide : 0 + 0 ≤ _)⟩)
  dsimp only [Pt.U, Pt.locs, Pt.cells, Pt.slots] at X357 l357 y357 z357 st357 hQ357
  subst l357 y357 z357
  obtain ⟨rfl, Nq357, Kq357, fq357_0, fq357_1⟩ := hQ357
  have K357 : Keep h0 T357.heap [b343] := Keep.trans (Keep.refl h0 [b343]) Kq357 (allS (Or.inl (List.mem_of_getElem? (i := 0) rfl)) all0)
  have Z357 : n0 ≤ T357.heap.size := Nat.le_trans Z0 Kq357.1
  have N357 := Fr.app N0 Nq357
  refine Goes.tr st357 ?_
  show Goes p e below (T357.setTop (mkF m 5 #[rv b343, rv b311] [])) _
  obtain ⟨fs, hr, hrun, hended, hW, hsame⟩ := X357.leave (v := none) (fun _ => rfl)
  exact ⟨_, _, X357.returnOut hx Bd.returns (hb hby d7_5) hr, hrun, hended, _, _, rfl, ⟨rfl, N357, K357, fq357_0, fq357_1⟩, ⟨_, rfl⟩, hW, hsame.mono (by decide) (by decide)⟩
def Q_r6_333 (Z : State) (mA : Addr) (mL : Addr) (mR : Addr) (b307 : Addr) (b311 : Addr) (h0 : Heap) (n0 : Nat) (v : Option Value) (h : Heap) (L : List Loc) : Prop := (v = some (.ref b311) ∧ Fr n0 L ∧ h = h0 ∧ mA = mL) ∨ (v = some (.ref b311) ∧ Fr n0 L ∧ h = h0 ∧ ¬ (mA = mL) ∧ mA = mR) ∨ (∃ (b343 : Addr), v = some (.ref b343) ∧ Fr n0 L ∧ Keep h0 h [] ∧ h0.size ≤ b343 ∧ Exa Z h b343 "java/util/Collections$UnmodifiableRandomAccessList" ∧ Fld Z h b343 "java/util/Collections$UnmodifiableCollection" "c" "Ljava/util/Collection;" (.ref b311) ∧ Fld Z h b343 "java/util/Collections$UnmodifiableList" "list" "Ljava/util/List;" (.ref b311) ∧ ¬ (mA = mL) ∧ ¬ (mA = mR))
set_option maxRecDepth 65536 in
set_option maxHeartbeats 40000000 in
theorem r6_333 (l : Launch) (Z : State) (a0 : Array Value) (hw : ∀ d ∈ tables_1, d.before a0 Z = true) (ws : List Jvm.Cond) (h0 : Heap) (n0 : Nat) (Z0 : n0 ≤ h0.size) (mA : Addr) (mL : Addr) (mR : Addr) (b307 : Addr) (b311 : Addr) (u334_2 : Exa Z h0 b307 "com/example/entail/entail/model/EntrySettings") (u334_7 : Exa Z h0 b311 "java/util/ArrayList") (MA : OwnMir Z "java/util/ArrayList" mA) (ML : OwnMir Z "java/util/Collections$UnmodifiableList" mL) (MR : OwnMir Z "java/util/Collections$UnmodifiableRandomAccessList" mR) :
    MetFree l (⟨"java/util/Collections", "unmodifiableList", "(Ljava/util/List;)Ljava/util/List;"⟩ : MethodName) (head1 (Jvm.Cond.code (⟨"java/util/Collections", "unmodifiableList", "(Ljava/util/List;)Ljava/util/List;"⟩ : MethodName) jdk_79_method_35_code 1 (some (.object "java/util/List")) :: ws) ({ frames := 4, cells := 1, slots := 2, locals := 64 } : Room)) (fun a U => a = #[(.ref b311)] ∧ Z.Warmed39 U.vm ∧ U.heap = h0) (fun _ _ _ _ _ => True) (fun _ U o U' => ∃ v L, o = .returned v ∧ Q_r6_333 Z mA mL mR b307 b311 h0 n0 v U'.heap L ∧ FrameEnd U o U' L ({ frames := 4, cells := 1, slots := 2, locals := 64 } : Room).cells ({ frames := 4, cells := 1, slots := 2, locals := 64 } : Room).slots) := by
  refine MetFree.of_bodySF (plainFor_of_name pn6) hisR ?_
  intro p e s m args below meth c s₁ Bd hml0 hP hK
  obtain ⟨rfl, hZ, hh⟩ := hP
  have hx := Bd.exec
  have hby := Bd.bytes
  have hml : c.maxLocals = 1 := hml0
  have hown : s.vm.findClass "java/util/Collections" = some m.cls := findClass_of_methodNamed Bd.named
  have hnm := (name_of_methodNamed Bd.named Bd.method).1
  have X0 : Stand p l e ({ frames := 4, cells := 1, slots := 2, locals := 64 } : Room) s m #[(.ref b311)] below meth c s₁ [] 0 0 := Stand.of_body Bd
  have e0 : s₁.heap = h0 := by rw [← hh, Bd.state]; rfl
  have N0 := Fr.nil n0
  refine Goes.out (Goes.by (fun tz kz => castTop (ef6_R m b311) kz) ?_)
  show Goes p e below (s₁.setTop (mkF m 0 #[rv b311] [])) _
  refine Goes.by (fun _ kz => XS.aloadN X0.here hx rfl (hb hby d6_0) rfl rfl kz) ?_
  obtain ⟨cB336, kB336, qa336, qb336, qc336, qd336⟩ := own_mirOf hZ e0 u334_7 MA
  obtain ⟨vm336, X336, st336⟩ := X0.getClassOfI hx (xi := (⟨"java/util/List", "getClass", "()Ljava/lang/Class;"⟩ : MethodName)) hown (mvT hZ (hw _ (List.mem_of_getElem? (i := 39) rfl))) (mvT hZ (hw _ (List.mem_of_getElem? (i := 40) rfl))) (Jvm.Free.ULB.iface_rides hZ.alike (hw _ (List.mem_of_getElem? (i := 41) rfl))) (mvT hZ (hw _ (List.mem_of_getElem? (i := 42) rfl))) (mvT hZ (hw _ (List.mem_of_getElem? (i := 43) rfl))) (mvT hZ (hw _ (List.mem_of_getElem? (i := 44) rfl))) (mvT hZ (hw _ (List.mem_of_getElem? (i := 45) rfl))) (mvT hZ (hw _ (List.mem_of_getElem? (i := 46) rfl))) (mvT hZ (hw _ (List.mem_of_getElem? (i := 47) rfl))) (by decide) (by decide) rfl rfl qa336 qb336 qc336 qd336 (g := (mkF m 1 #[rv b311] [(.ref b311)])) rfl (by rw [hml]; rfl) rfl (hb hby d6_1) (by decide) (by show 2 * 0 + 0 + (nativeFrameWords "java/lang/Object" "getClass" 1 + 11) ≤ _; decide)
  have e336 : (s₁.setVm vm336).heap = h0 := e0
  refine Goes.by st336 ?_
  obtain ⟨vm337, X337, st337⟩ := X336.ldcMirror hx hown (mvT hZ (hw _ (List.mem_of_getElem? (i := 49) rfl))) (own_mir hZ ML) (g := (mkF m 6 #[rv b311] [(.ref mA)])) rfl (hb hby d6_6)
  have e337 : ((s₁.setVm vm336).setVm vm337).heap = h0 := e336
  refine Goes.by st337 ?_
  show Goes p e below (((s₁.setVm vm336).setVm vm337).setTop (mkF m 8 #[rv b311] [(.ref mL), (.ref mA)])) _
  by_cases hc338 : mA = mL
  · refine Goes.by (fun _ kz => Jvm.RoadKit.acmp (g := (mkF m 8 #[rv b311] [(.ref mL), (.ref mA)])) X337 hx rfl rfl rfl (pc0 := 8) (pc' := 22) (same := true) rfl (hb hby d6_8) rfl (decide_eq_true (congrArg Value.ref hc338)) (by decide) (by decide) (XS.aloadN X337.here hx rfl (hb hby d6_22) rfl rfl kz)) ?_
    show Goes p e below (((s₁.setVm vm336).setVm vm337).setTop (mkF m 23 #[rv b311] [(.ref b311)])) _
    obtain ⟨fs, hr, hrun, hended, hW, hsame⟩ := X337.leave (v := some (.ref b311)) (fun h => by rw [Bd.returns] at h; cases h)
    exact ⟨_, _, retOut X337 hx (t := (.object "java/util/List")) Bd.returns rfl (Or.inr (Or.inr (Or.inr (Or.inr ⟨rfl, rfl, rfl⟩)))) (hb hby d6_23) hr, hrun, hended, _, _, rfl, (Or.inl ⟨rfl, N0, e337, hc338⟩), ⟨_, rfl⟩, hW, hsame.mono (by decide) (by decide)⟩
  · refine Goes.by (fun _ kz => Jvm.RoadKit.acmp (g := (mkF m 8 #[rv b311] [(.ref mL), (.ref mA)])) X337 hx rfl rfl rfl (pc0 := 8) (pc' := 11) (same := false) rfl (hb hby d6_8) rfl (decide_eq_false fun q => hc338 (Value.ref.inj q)) (by decide) (by decide) (XS.aloadN X337.here hx rfl (hb hby d6_11) rfl rfl kz)) ?_
    obtain ⟨cB339, kB339, qa339, qb339, qc339, qd339⟩ := own_mirOf hZ e337 u334_7 MA
    obtain ⟨vm339, X339, st339⟩ := X337.getClassOfI hx (xi := (⟨"java/util/List", "getClass", "()Ljava/lang/Class;"⟩ : MethodName)) hown (mvT hZ (hw _ (List.mem_of_getElem? (i := 51) rfl))) (mvT hZ (hw _ (List.mem_of_getElem? (i := 40) rfl))) (Jvm.Free.ULB.iface_rides hZ.alike (hw _ (List.mem_of_getElem? (i := 41) rfl))) (mvT hZ (hw _ (List.mem_of_getElem? (i := 42) rfl))) (mvT hZ (hw _ (List.mem_of_getElem? (i := 43) rfl))) (mvT hZ (hw _ (List.mem_of_getElem? (i := 44) rfl))) (mvT hZ (hw _ (List.mem_of_getElem? (i := 45) rfl))) (mvT hZ (hw _ (List.mem_of_getElem? (i := 46) rfl))) (mvT hZ (hw _ (List.mem_of_getElem? (i := 47) rfl))) (by decide) (by decide) rfl rfl qa339 qb339 qc339 qd339 (g := (mkF m 12 #[rv b311] [(.ref b311)])) rfl (by rw [hml]; rfl) rfl (hb hby d6_12) (by decide) (by show 2 * 0 + 0 + (nativeFrameWords "java/lang/Object" "getClass" 1 + 11) ≤ _; decide)
    have e339 : (((s₁.setVm vm336).setVm vm337).setVm vm339).heap = h0 := e337
    refine Goes.by st339 ?_
    obtain ⟨vm340, X340, st340⟩ := X339.ldcMirror hx hown (mvT hZ (hw _ (List.mem_of_getElem? (i := 52) rfl))) (own_mir hZ MR) (g := (mkF m 17 #[rv b311] [(.ref mA)])) rfl (hb hby d6_17)
    have e340 : ((((s₁.setVm vm336).setVm vm337).setVm vm339).setVm vm340).heap = h0 := e339
    refine Goes.by st340 ?_
    show Goes p e below (((((s₁.setVm vm336).setVm vm337).setVm vm339).setVm vm340).setTop (mkF m 19 #[rv b311] [(.ref mR), (.ref mA)])) _
    by_cases hc341 : mA = mR
    · refine Goes.by (fun _ kz => Jvm.RoadKit.acmp (g := (mkF m 19 #[rv b311] [(.ref mR), (.ref mA)])) X340 hx rfl rfl rfl (pc0 := 19) (pc' := 22) (same := true) rfl (hb hby d6_19) rfl (decide_eq_true (congrArg Value.ref hc341)) (by decide) (by decide) (XS.aloadN X340.here hx rfl (hb hby d6_22) rfl rfl kz)) ?_
      show Goes p e below (((((s₁.setVm vm336).setVm vm337).setVm vm339).setVm vm340).setTop (mkF m 23 #[rv b311] [(.ref b311)])) _
      obtain ⟨fs, hr, hrun, hended, hW, hsame⟩ := X340.leave (v := some (.ref b311)) (fun h => by rw [Bd.returns] at h; cases h)
      exact ⟨_, _, retOut X340 hx (t := (.object "java/util/List")) Bd.returns rfl (Or.inr (Or.inr (Or.inr (Or.inr ⟨rfl, rfl, rfl⟩)))) (hb hby d6_23) hr, hrun, hended, _, _, rfl, (Or.inr (Or.inl ⟨rfl, N0, e340, hc338, hc341⟩)), ⟨_, rfl⟩, hW, hsame.mono (by decide) (by decide)⟩
    · refine Goes.by (fun _ kz => Jvm.RoadKit.acmp (g := (mkF m 19 #[rv b311] [(.ref mR), (.ref mA)])) X340 hx rfl rfl rfl (pc0 := 19) (pc' := 24) (same := false) rfl (hb hby d6_19) rfl (decide_eq_false fun q => hc341 (Value.ref.inj q)) (by decide) (by decide) (XS.aloadN X340.here hx rfl (hb hby d6_24) rfl rfl kz)) ?_
      obtain ⟨T342, X342, e342, st342⟩ := instY X340 hx hZ hown (hw _ (List.mem_of_getElem? (i := 54) rfl)) e340 (Ins.of_exa u334_7 (hw _ (List.mem_of_getElem? (i := 55) rfl))) (g := (mkF m 25 #[rv b311] [(.ref b311)])) rfl rfl (hb hby d6_25)
      refine Goes.by st342 ?_
      refine Goes.by (fun _ kz => XS.ifNo X342.here hx rfl (hb hby d6_28) rfl ((if0 _ _).trans (feq (by decide : ¬ ((1 : Int32) = (0 : Int32)))).1) kz) ?_
      obtain ⟨T343, h343, X343, e343, E343, A343, D343, -, st343⟩ := newO X342 hx hZ hown (hw _ (List.mem_of_getElem? (i := 52) rfl)) (hw _ (List.mem_of_getElem? (i := 56) rfl)) (hw _ (List.mem_of_getElem? (i := 57) rfl)) e342 (g := (mkF m 31 #[rv b311] [])) rfl (hb hby d6_31) (by decide) (by decide)
      obtain ⟨b343, g343⟩ : ∃ z, z = h0.size := ⟨_, rfl⟩
      rw [← g343] at A343 D343 st343
      have ne343_b307 : b307 ≠ b343 := Nat.ne_of_lt (Nat.lt_of_lt_of_le u334_2.lt (Nat.le_of_eq g343.symm))
      have ne343_b311 : b311 ≠ b343 := Nat.ne_of_lt (Nat.lt_of_lt_of_le u334_7.lt (Nat.le_of_eq g343.symm))
      have g_b343 : n0 ≤ b343 := Nat.le_trans Z0 (Nat.le_of_eq g343.symm)
      have sz_b343 : h0.size ≤ b343 := Nat.le_of_eq g343.symm
      have F343_c : Fld Z h343 b343 "java/util/Collections$UnmodifiableCollection" "c" "Ljava/util/Collection;" .null := D343 (Or.inr (hw _ (List.mem_of_getElem? (i := 75) rfl))) (ty := (.object "java/util/Collection")) (by decide)
      have F343_list : Fld Z h343 b343 "java/util/Collections$UnmodifiableList" "list" "Ljava/util/List;" .null := D343 (Or.inr (hw _ (List.mem_of_getElem? (i := 77) rfl))) (ty := (.object "java/util/List")) (by decide)
      have K343 : Keep h0 h343 [] := Keep.ext (Keep.refl h0 []) E343
      have Z343 : n0 ≤ h343.size := Nat.le_trans Z0 E343.1
      refine Goes.by st343 ?_
      refine Goes.by (fun _ kz => XS.dup X343.here hx rfl (hb hby d6_34) rfl rfl (XS.aloadN X343.here hx rfl (hb hby d6_35) rfl rfl kz)) ?_
      obtain ⟨_, _, ⟨T358, L358, k358, n358⟩, -, X358, ⟨Lc358, hQ358, l358, y358, z358⟩, st358⟩ := X343.specialBack hx (y := (⟨"java/util/Collections$UnmodifiableRandomAccessList", "<init>", "(Ljava/util/List;)V"⟩ : MethodName)) rfl hown (mvT hZ (hw _ (List.mem_of_getElem? (i := 58) rfl))) (mvT hZ (hw _ (List.mem_of_getElem? (i := 59) rfl))) (mvT hZ (hw _ (List.mem_of_getElem? (i := 60) rfl))) (by decide) (backOf (W := 1) (r7_343 l Z a0 hw [] h343 n0 Z343 b311 b343 A343 F343_c F343_list g_b343) hZ (hw _ (List.mem_of_getElem? (i := 60) rfl)) (hw _ (List.mem_of_getElem? (i := 57) rfl)) (by decide) (by decide)) (g := (mkF m 36 #[rv b311] [(.ref b311), (.ref b343), (.ref b343)])) rfl (by rw [hml]; rfl) (Steps.refl _) (a := b343) (argsL := [(.ref b311)]) (rest := [(.ref b343)]) (lenOf pd2 rfl) rfl (by show 2 * 0 + _ ≤ _; exact Nat.le_of_eq rfl) (hb hby d6_36) (fun _ _ => ⟨rfl, e343, (by decide : 1 + 0 ≤ _), (by decide : 2 + 0 ≤ _)⟩)
      dsimp only [Pt.U, Pt.locs, Pt.cells, Pt.slots] at X358 l358 y358 z358 st358 hQ358
      subst l358 y358 z358
      obtain ⟨rfl, Nq358, Kq358, fq358_0, fq358_1⟩ := hQ358
      have K358 : Keep h0 T358.heap [] := Keep.trans K343 Kq358 (allS (Or.inr sz_b343) all0)
      have Z358 : n0 ≤ T358.heap.size := Nat.le_trans Z343 Kq358.1
      have N358 := Fr.app N0 Nq358
      refine Goes.tr st358 ?_
      refine Goes.by (fun _ kz => XS.goto X358.here hx rfl (pc0 := 39) (pc' := 50) rfl (hb hby d6_39) (by decide) (by decide) kz) ?_
      show Goes p e below (T358.setTop (mkF m 50 #[rv b311] [(.ref b343)])) _
      have f359 := (A343.keep Kq358)
      obtain ⟨fs, hr, hrun, hended, hW, hsame⟩ := X358.leave (v := some (.ref b343)) (fun h => by rw [Bd.returns] at h; cases h)
      exact ⟨_, _, retOut X358 hx (t := (.object "java/util/List")) Bd.returns rfl (Or.inr (Or.inr (Or.inr (Or.inr ⟨rfl, rfl, rfl⟩)))) (hb hby d6_50) hr, hrun, hended, _, _, rfl, (Or.inr (Or.inr ⟨b343, rfl, N358, K358, sz_b343, f359, fq358_0, fq358_1, hc338, hc341⟩)), ⟨_, rfl⟩, hW, hsame.mono (by decide) (by decide)⟩
def Q_r1_307 (Z : State) (mA : Addr) (mL : Addr) (mR : Addr) (q1 : Addr) (q2 : Addr) (b307 : Addr) (h0 : Heap) (n0 : Nat) (v : Option Value) (h : Heap) (L : List Loc) : Prop := (∃ (b311 : Addr), v = none ∧ Fr n0 L ∧ Keep h0 h [b307] ∧ h0.size ≤ b311 ∧ Fld Z h b307 "com/example/entail/entail/model/EntrySettings" "rules" "Ljava/util/List;" (.ref b311) ∧ Fld Z h b307 "com/example/entail/entail/model/EntrySettings" "rulesView" "Ljava/util/List;" (.ref b311) ∧ Fld Z h b307 "com/example/entail/entail/model/EntrySettings" "blockedTrusteesView" "Ljava/util/Set;" (.ref q2) ∧ Fld Z h b307 "com/example/entail/entail/model/EntrySettings" "blocks" "Z" (.int 0) ∧ Exa Z h b311 "java/util/ArrayList" ∧ Fld Z h b311 "java/util/AbstractList" "modCount" "I" (.int 0) ∧ Fld Z h b311 "java/util/ArrayList" "elementData" "[Ljava/lang/Object;" (.ref q1) ∧ mA = mL) ∨ (∃ (b311 : Addr), v = none ∧ Fr n0 L ∧ Keep h0 h [b307] ∧ h0.size ≤ b311 ∧ Fld Z h b307 "com/example/entail/entail/model/EntrySettings" "rules" "Ljava/util/List;" (.ref b311) ∧ Fld Z h b307 "com/example/entail/entail/model/EntrySettings" "rulesView" "Ljava/util/List;" (.ref b311) ∧ Fld Z h b307 "com/example/entail/entail/model/EntrySettings" "blockedTrusteesView" "Ljava/util/Set;" (.ref q2) ∧ Fld Z h b307 "com/example/entail/entail/model/EntrySettings" "blocks" "Z" (.int 0) ∧ Exa Z h b311 "java/util/ArrayList" ∧ Fld Z h b311 "java/util/AbstractList" "modCount" "I" (.int 0) ∧ Fld Z h b311 "java/util/ArrayList" "elementData" "[Ljava/lang/Object;" (.ref q1) ∧ ¬ (mA = mL) ∧ mA = mR) ∨ (∃ (b311 : Addr) (b343_362 : Addr), v = none ∧ Fr n0 L ∧ Keep h0 h [b307] ∧ h0.size ≤ b311 ∧ h0.size ≤ b343_362 ∧ Fld Z h b307 "com/example/entail/entail/model/EntrySettings" "rules" "Ljava/util/List;" (.ref b311) ∧ Fld Z h b307 "com/example/entail/entail/model/EntrySettings" "rulesView" "Ljava/util/List;" (.ref b343_362) ∧ Fld Z h b307 "com/example/entail/entail/model/EntrySettings" "blockedTrusteesView" "Ljava/util/Set;" (.ref q2) ∧ Fld Z h b307 "com/example/entail/entail/model/EntrySettings" "blocks" "Z" (.int 0) ∧ Exa Z h b311 "java/util/ArrayList" ∧ Fld Z h b311 "java/util/AbstractList" "modCount" "I" (.int 0) ∧ Fld Z h b311 "java/util/ArrayList" "elementData" "[Ljava/lang/Object;" (.ref q1) ∧ Exa Z h b343_362 "java/util/Collections$UnmodifiableRandomAccessList" ∧ Fld Z h b343_362 "java/util/Collections$UnmodifiableCollection" "c" "Ljava/util/Collection;" (.ref b311) ∧ Fld Z h b343_362 "java/util/Collections$UnmodifiableList" "list" "Ljava/util/List;" (.ref b311) ∧ ¬ (mA = mL) ∧ ¬ (mA = mR))
set_option maxRecDepth 65536 in
set_option maxHeartbeats 40000000 in
theorem r1_307 (l : Launch) (Z : State) (a0 : Array Value) (hw : ∀ d ∈ tables_1, d.before a0 Z = true) (ws : List Jvm.Cond) (h0 : Heap) (n0 : Nat) (Z0 : n0 ≤ h0.size) (mA : Addr) (mL : Addr) (mR : Addr) (q1 : Addr) (q2 : Addr) (b307 : Addr) (u308_0 : Sta Z h0 "java/util/ArrayList" "DEFAULTCAPACITY_EMPTY_ELEMENTDATA" "[Ljava/lang/Object;" (.ref q1)) (u308_1 : Sta Z h0 "java/util/ImmutableCollections" "EMPTY_SET" "Ljava/util/ImmutableCollections$SetN;" (.ref q2)) (u308_2 : Exa Z h0 b307 "com/example/entail/entail/model/EntrySettings") (u308_3 : Fld Z h0 b307 "com/example/entail/entail/model/EntrySettings" "rules" "Ljava/util/List;" .null) (u308_4 : Fld Z h0 b307 "com/example/entail/entail/model/EntrySettings" "rulesView" "Ljava/util/List;" .null) (u308_5 : Fld Z h0 b307 "com/example/entail/entail/model/EntrySettings" "blockedTrusteesView" "Ljava/util/Set;" .null) (u308_6 : Fld Z h0 b307 "com/example/entail/entail/model/EntrySettings" "blocks" "Z" (.int 0)) (MA : OwnMir Z "java/util/ArrayList" mA) (ML : OwnMir Z "java/util/Collections$UnmodifiableList" mL) (MR : OwnMir Z "java/util/Collections$UnmodifiableRandomAccessList" mR) (g_b307 : n0 ≤ b307) :
    MetFree l (⟨"com/example/entail/entail/model/EntrySettings", "<init>", "()V"⟩ : MethodName) (head1 (Jvm.Cond.code (⟨"com/example/entail/entail/model/EntrySettings", "<init>", "()V"⟩ : MethodName) prog_7_method_1_code 1 none :: ws) ({ frames := 5, cells := 2, slots := 5, locals := 77 } : Room)) (fun a U => a = #[(.ref b307)] ∧ Z.Warmed39 U.vm ∧ U.heap = h0) (fun _ _ _ _ _ => True) (fun _ U o U' => ∃ v L, o = .returned v ∧ Q_r1_307 Z mA mL mR q1 q2 b307 h0 n0 v U'.heap L ∧ FrameEnd U o U' L ({ frames := 5, cells := 2, slots := 5, locals := 77 } : Room).cells ({ frames := 5, cells := 2, slots := 5, locals := 77 } : Room).slots) := by
  refine MetFree.of_bodySF (plainFor_of_name pn8) hisR ?_
  intro p e s m args below meth c s₁ Bd hml0 hP hK
  obtain ⟨rfl, hZ, hh⟩ := hP
  have hx := Bd.exec
  have hby := Bd.bytes
  have hml : c.maxLocals = 1 := hml0
  have hown : s.vm.findClass "com/example/entail/entail/model/EntrySettings" = some m.cls := findClass_of_methodNamed Bd.named
  have hnm := (name_of_methodNamed Bd.named Bd.method).1
  have X0 : Stand p l e ({ frames := 5, cells := 2, slots := 5, locals := 77 } : Room) s m #[(.ref b307)] below meth c s₁ [] 0 0 := Stand.of_body Bd
  have e0 : s₁.heap = h0 := by rw [← hh, Bd.state]; rfl
  have N0 := Fr.nil n0
  refine Goes.out (Goes.by (fun tz kz => castTop (ef1_R m b307) kz) ?_)
  show Goes p e below (s₁.setTop (mkF m 0 #[rv b307] [])) _
  refine Goes.by (fun _ kz => XS.aloadN X0.here hx rfl (hb hby d1_0) rfl rfl kz) ?_
  obtain ⟨T310, X310, e310, st310⟩ := initO X0 hx hZ hown (hw _ (List.mem_of_getElem? (i := 6) rfl)) (hw _ (List.mem_of_getElem? (i := 7) rfl)) (hw _ (List.mem_of_getElem? (i := 8) rfl)) e0 (g := (mkF m 1 #[rv b307] [(.ref b307)])) rfl (by rw [hml]; rfl) rfl (hb hby d1_1) (by decide) (W := 0) (by show 2 * 0 + _ ≤ _; exact Nat.le_of_eq rfl) (by decide)
  refine Goes.by st310 ?_
  refine Goes.by (fun _ kz => XS.aloadN X310.here hx rfl (hb hby d1_4) rfl rfl kz) ?_
  obtain ⟨T311, h311, X311, e311, E311, A311, D311, -, st311⟩ := newO X310 hx hZ hown (hw _ (List.mem_of_getElem? (i := 9) rfl)) (hw _ (List.mem_of_getElem? (i := 10) rfl)) (hw _ (List.mem_of_getElem? (i := 11) rfl)) e310 (g := (mkF m 5 #[rv b307] [(.ref b307)])) rfl (hb hby d1_5) (by decide) (by decide)
  obtain ⟨b311, g311⟩ : ∃ z, z = h0.size := ⟨_, rfl⟩
  rw [← g311] at A311 D311 st311
  have ne311_b307 : b307 ≠ b311 := Nat.ne_of_lt (Nat.lt_of_lt_of_le u308_2.lt (Nat.le_of_eq g311.symm))
  have g_b311 : n0 ≤ b311 := Nat.le_trans Z0 (Nat.le_of_eq g311.symm)
  have sz_b311 : h0.size ≤ b311 := Nat.le_of_eq g311.symm
  have F311_modCount : Fld Z h311 b311 "java/util/AbstractList" "modCount" "I" (.int 0) := D311 (Or.inl (hw _ (List.mem_of_getElem? (i := 29) rfl))) (ty := .int) (by decide)
  have F311_elementData : Fld Z h311 b311 "java/util/ArrayList" "elementData" "[Ljava/lang/Object;" .null := D311 (Or.inl (hw _ (List.mem_of_getElem? (i := 32) rfl))) (ty := (.array (.object "java/lang/Object"))) (by decide)
  have K311 : Keep h0 h311 [b307] := Keep.ext (Keep.refl h0 [b307]) E311
  have Z311 : n0 ≤ h311.size := Nat.le_trans Z0 E311.1
  refine Goes.by st311 ?_
  refine Goes.by (fun _ kz => XS.dup X311.here hx rfl (hb hby d1_8) rfl rfl kz) ?_
  have f328 := (u308_0.ext E311)
  obtain ⟨_, _, ⟨T329, L329, k329, n329⟩, -, X329, ⟨Lc329, hQ329, l329, y329, z329⟩, st329⟩ := X311.specialBack hx (y := (⟨"java/util/ArrayList", "<init>", "()V"⟩ : MethodName)) rfl hown (mvT hZ (hw _ (List.mem_of_getElem? (i := 12) rfl))) (mvT hZ (hw _ (List.mem_of_getElem? (i := 13) rfl))) (mvT hZ (hw _ (List.mem_of_getElem? (i := 14) rfl))) (by decide) (backOf (W := 2) (r3_311 l Z a0 hw [] h311 n0 Z311 q1 b311 f328 A311 F311_modCount F311_elementData g_b311) hZ (hw _ (List.mem_of_getElem? (i := 14) rfl)) (hw _ (List.mem_of_getElem? (i := 11) rfl)) (by decide) (by decide)) (g := (mkF m 9 #[rv b307] [(.ref b311), (.ref b311), (.ref b307)])) rfl (by rw [hml]; rfl) (Steps.refl _) (a := b311) (argsL := []) (rest := [(.ref b311), (.ref b307)]) (lenOf pd0 rfl) rfl (by show 2 * 0 + _ ≤ _; exact Nat.le_of_eq rfl) (hb hby d1_9) (fun _ _ => ⟨rfl, e311, (by decide : 1 + 0 ≤ _), (by decide : 3 + 0 ≤ _)⟩)
  dsimp only [Pt.U, Pt.locs, Pt.cells, Pt.slots] at X329 l329 y329 z329 st329 hQ329
  subst l329 y329 z329
  obtain ⟨rfl, Nq329, Kq329, fq329_0, fq329_1⟩ := hQ329
  have K329 : Keep h0 T329.heap [b307] := Keep.trans K311 Kq329 (allS (Or.inr sz_b311) all0)
  have Z329 : n0 ≤ T329.heap.size := Nat.le_trans Z311 Kq329.1
  have N329 := Fr.app N0 Nq329
  refine Goes.tr st329 ?_
  have f330 := ((u308_2.ext E311).keep Kq329)
  have f331 := ((u308_3.ext E311).keep Kq329 (ninS ne311_b307 nin0))
  obtain ⟨T332, h332, X332, e332, W332, st332⟩ := putF X329 hx hZ hown (host := "") (Or.inl (hw _ (List.mem_of_getElem? (i := 33) rfl))) Via.refl rfl f331 f330 (Or.inr ⟨(hw _ (List.mem_of_getElem? (i := 34) rfl)), rfl, hnm⟩) (hw _ (List.mem_of_getElem? (i := 1) rfl)) (ty := (.object "java/util/List")) (by decide) rfl rfl (g := (mkF m 12 #[rv b307] [(.ref b311), (.ref b307)])) rfl rfl (hb hby d1_12)
  have Fw332 := Fld.same W332 f331
  have K332 : Keep h0 h332 [b307] := Keep.wr K329 W332 (Or.inl (List.mem_of_getElem? (i := 0) rfl))
  have Z332 : n0 ≤ h332.size := Nat.le_trans Z329 (Keep.of_wr W332).1
  have N332 := Fr.snoc X332 N329 g_b307
  refine Goes.by st332 ?_
  refine Goes.by (fun _ kz => XS.aloadN X332.here hx rfl (hb hby d1_15) rfl rfl (XS.aloadN X332.here hx rfl (hb hby d1_16) rfl rfl kz)) ?_
  obtain ⟨T333, X333, e333, st333⟩ := getF X332 hx hZ hown (host := "") (Or.inl (hw _ (List.mem_of_getElem? (i := 33) rfl))) Via.refl e332 Fw332 (g := (mkF m 17 #[rv b307] [(.ref b307), (.ref b307)])) rfl rfl (hb hby d1_17)
  refine Goes.by st333 ?_
  have f360 := (Exa.wr W332 f330)
  have f361 := (Exa.wr W332 (A311.keep Kq329))
  obtain ⟨_, _, ⟨T362, L362, k362, n362⟩, -, X362, ⟨Lc362, hQ362, l362, y362, z362⟩, st362⟩ := Jvm.LawKit.callS X333 hx (y := (⟨"java/util/Collections", "unmodifiableList", "(Ljava/util/List;)Ljava/util/List;"⟩ : MethodName)) hown (mvT hZ (hw _ (List.mem_of_getElem? (i := 35) rfl))) (mvT hZ (hw _ (List.mem_of_getElem? (i := 36) rfl))) (mvT hZ (hw _ (List.mem_of_getElem? (i := 37) rfl))) (mvT hZ (hw _ (List.mem_of_getElem? (i := 38) rfl))) (by decide) (backOf (W := 1) (r6_333 l Z a0 hw [] h332 n0 Z332 mA mL mR b307 b311 f360 f361 MA ML MR) hZ (hw _ (List.mem_of_getElem? (i := 38) rfl)) (hw _ (List.mem_of_getElem? (i := 37) rfl)) (by decide) (by decide)) (g := (mkF m 20 #[rv b307] [(.ref b311), (.ref b307)])) rfl (by rw [hml]; rfl) (argsL := [(.ref b311)]) (rest := [(.ref b307)]) (lenOf pd3 rfl) rfl (by show 2 * 0 + _ ≤ _; exact Nat.le_of_eq rfl) (hb hby d1_20) (fun _ _ => ⟨rfl, e333, (by decide : 1 + 1 ≤ _), (by decide : 3 + 2 ≤ _)⟩)
  dsimp only [Pt.U, Pt.locs, Pt.cells, Pt.slots] at X362 l362 y362 z362 st362 hQ362
  subst l362 y362 z362
  rcases hQ362 with hQ362 | hQ362 | hQ362
  · obtain ⟨rfl, Nq362, e362, hc362_338⟩ := hQ362
    have N362 := Fr.app N332 Nq362
    refine Goes.by st362 ?_
    have f363 := (Fld.other W332 ((u308_4.ext E311).keep Kq329 (ninS ne311_b307 nin0)) (Or.inr (slot_ne (Or.inr (hw _ (List.mem_of_getElem? (i := 79) rfl))) (Or.inr (hw _ (List.mem_of_getElem? (i := 34) rfl))) (by decide) (t := (.object "java/util/List")) (t' := (.object "java/util/List")) (by decide) (by decide))))
    obtain ⟨T364, h364, X364, e364, W364, st364⟩ := putF X362 hx hZ hown (host := "") (Or.inl (hw _ (List.mem_of_getElem? (i := 78) rfl))) Via.refl e362 f363 f360 (Or.inr ⟨(hw _ (List.mem_of_getElem? (i := 79) rfl)), rfl, hnm⟩) (hw _ (List.mem_of_getElem? (i := 1) rfl)) (ty := (.object "java/util/List")) (by decide) rfl rfl (g := (mkF m 23 #[rv b307] [(.ref b311), (.ref b307)])) rfl rfl (hb hby d1_23)
    have Fw364 := Fld.same W364 f363
    have K364 : Keep h0 h364 [b307] := Keep.wr K332 W364 (Or.inl (List.mem_of_getElem? (i := 0) rfl))
    have Z364 : n0 ≤ h364.size := Nat.le_trans Z332 (Keep.of_wr W364).1
    have N364 := Fr.snoc X364 N362 g_b307
    refine Goes.by st364 ?_
    refine Goes.by (fun _ kz => XS.aloadN X364.here hx rfl (hb hby d1_26) rfl rfl kz) ?_
    have f365 := (Sta.wr W364 (Sta.wr W332 (own_staKeep (u308_1.ext E311) Kq329 (allS (own_nsE A311) all0))))
    obtain ⟨_, _, ⟨T366, L366, k366, n366⟩, -, X366, ⟨Lc366, hQ366, l366, y366, z366⟩, st366⟩ := Jvm.LawKit.callS X364 hx (y := (⟨"java/util/Set", "of", "()Ljava/util/Set;"⟩ : MethodName)) hown (mvT hZ (hw _ (List.mem_of_getElem? (i := 80) rfl))) (mvT hZ (hw _ (List.mem_of_getElem? (i := 81) rfl))) (mvT hZ (hw _ (List.mem_of_getElem? (i := 82) rfl))) (mvT hZ (hw _ (List.mem_of_getElem? (i := 83) rfl))) (by decide) (backOf (W := 1) (r10_58 l Z a0 hw [] h364 n0 Z364 q2 f365) hZ (hw _ (List.mem_of_getElem? (i := 83) rfl)) (hw _ (List.mem_of_getElem? (i := 82) rfl)) (by decide) (by decide)) (g := (mkF m 27 #[rv b307] [(.ref b307)])) rfl (by rw [hml]; rfl) (argsL := []) (rest := [(.ref b307)]) (lenOf pd4 rfl) rfl (by show 2 * 0 + _ ≤ _; exact Nat.le_of_eq rfl) (hb hby d1_27) (fun _ _ => ⟨rfl, e364, (by decide : 2 + 0 ≤ _), (by decide : 5 + 0 ≤ _)⟩)
    dsimp only [Pt.U, Pt.locs, Pt.cells, Pt.slots] at X366 l366 y366 z366 st366 hQ366
    subst l366 y366 z366
    obtain ⟨rfl, Nq366, e366⟩ := hQ366
    have N366 := Fr.app N364 Nq366
    refine Goes.by st366 ?_
    have f367 := (Exa.wr W364 f360)
    have f368 := (Fld.other W364 (Fld.other W332 ((u308_5.ext E311).keep Kq329 (ninS ne311_b307 nin0)) (Or.inr (slot_ne (Or.inl (hw _ (List.mem_of_getElem? (i := 87) rfl))) (Or.inr (hw _ (List.mem_of_getElem? (i := 34) rfl))) (by decide) (t := (.object "java/util/Set")) (t' := (.object "java/util/List")) (by decide) (by decide)))) (Or.inr (slot_ne (Or.inl (hw _ (List.mem_of_getElem? (i := 87) rfl))) (Or.inr (hw _ (List.mem_of_getElem? (i := 79) rfl))) (by decide) (t := (.object "java/util/Set")) (t' := (.object "java/util/List")) (by decide) (by decide))))
    obtain ⟨T369, h369, X369, e369, W369, st369⟩ := putF X366 hx hZ hown (host := "") (Or.inl (hw _ (List.mem_of_getElem? (i := 86) rfl))) Via.refl e366 f368 f367 (Or.inl (hw _ (List.mem_of_getElem? (i := 87) rfl))) (hw _ (List.mem_of_getElem? (i := 1) rfl)) (ty := (.object "java/util/Set")) (by decide) rfl rfl (g := (mkF m 30 #[rv b307] [(.ref q2), (.ref b307)])) rfl rfl (hb hby d1_30)
    have Fw369 := Fld.same W369 f368
    have K369 : Keep h0 h369 [b307] := Keep.wr K364 W369 (Or.inl (List.mem_of_getElem? (i := 0) rfl))
    have Z369 : n0 ≤ h369.size := Nat.le_trans Z364 (Keep.of_wr W369).1
    have N369 := Fr.snoc X369 N366 g_b307
    refine Goes.by st369 ?_
    show Goes p e below (T369.setTop (mkF m 33 #[rv b307] [])) _
    have f370 := (Fld.other W369 (Fld.other W364 Fw332 (Or.inr (slot_ne (Or.inr (hw _ (List.mem_of_getElem? (i := 34) rfl))) (Or.inr (hw _ (List.mem_of_getElem? (i := 79) rfl))) (by decide) (t := (.object "java/util/List")) (t' := (.object "java/util/List")) (by decide) (by decide)))) (Or.inr (slot_ne (Or.inr (hw _ (List.mem_of_getElem? (i := 34) rfl))) (Or.inl (hw _ (List.mem_of_getElem? (i := 87) rfl))) (by decide) (t := (.object "java/util/List")) (t' := (.object "java/util/Set")) (by decide) (by decide))))
    have f371 := (Fld.other W369 Fw364 (Or.inr (slot_ne (Or.inr (hw _ (List.mem_of_getElem? (i := 79) rfl))) (Or.inl (hw _ (List.mem_of_getElem? (i := 87) rfl))) (by decide) (t := (.object "java/util/List")) (t' := (.object "java/util/Set")) (by decide) (by decide))))
    have f372 := (Fld.other W369 (Fld.other W364 (Fld.other W332 ((u308_6.ext E311).keep Kq329 (ninS ne311_b307 nin0)) (Or.inr (slot_ne (Or.inl (hw _ (List.mem_of_getElem? (i := 94) rfl))) (Or.inr (hw _ (List.mem_of_getElem? (i := 34) rfl))) (by decide) (t := .boolean) (t' := (.object "java/util/List")) (by decide) (by decide)))) (Or.inr (slot_ne (Or.inl (hw _ (List.mem_of_getElem? (i := 94) rfl))) (Or.inr (hw _ (List.mem_of_getElem? (i := 79) rfl))) (by decide) (t := .boolean) (t' := (.object "java/util/List")) (by decide) (by decide)))) (Or.inr (slot_ne (Or.inl (hw _ (List.mem_of_getElem? (i := 94) rfl))) (Or.inl (hw _ (List.mem_of_getElem? (i := 87) rfl))) (by decide) (t := .boolean) (t' := (.object "java/util/Set")) (by decide) (by decide))))
    have f373 := (Exa.wr W369 (Exa.wr W364 f361))
    have f374 := (Fld.other W369 (Fld.other W364 (Fld.other W332 fq329_0 (Or.inl (Ne.symm ne311_b307))) (Or.inl (Ne.symm ne311_b307))) (Or.inl (Ne.symm ne311_b307)))
    have f375 := (Fld.other W369 (Fld.other W364 (Fld.other W332 fq329_1 (Or.inl (Ne.symm ne311_b307))) (Or.inl (Ne.symm ne311_b307))) (Or.inl (Ne.symm ne311_b307)))
    obtain ⟨fs, hr, hrun, hended, hW, hsame⟩ := X369.leave (v := none) (fun _ => rfl)
    exact ⟨_, _, X369.returnOut hx Bd.returns (hb hby d1_33) hr, hrun, hended, _, _, rfl, (by rw [show (T369.setFrames fs).heap = h369 from e369]; exact (Or.inl ⟨b311, rfl, N369, K369, sz_b311, f370, f371, Fw369, f372, f373, f374, f375, hc362_338⟩)), ⟨_, rfl⟩, hW, hsame.mono (by decide) (by decide)⟩
  · obtain ⟨rfl, Nq362, e362, hc362_338, hc362_341⟩ := hQ362
    have N362 := Fr.app N332 Nq362
    refine Goes.by st362 ?_
    have f376 := (Fld.other W332 ((u308_4.ext E311).keep Kq329 (ninS ne311_b307 nin0)) (Or.inr (slot_ne (Or.inr (hw _ (List.mem_of_getElem? (i := 79) rfl))) (Or.inr (hw _ (List.mem_of_getElem? (i := 34) rfl))) (by decide) (t := (.object "java/util/List")) (t' := (.object "java/util/List")) (by decide) (by decide))))
    obtain ⟨T377, h377, X377, e377, W377, st377⟩ := putF X362 hx hZ hown (host := "") (Or.inl (hw _ (List.mem_of_getElem? (i := 78) rfl))) Via.refl e362 f376 f360 (Or.inr ⟨(hw _ (List.mem_of_getElem? (i := 79) rfl)), rfl, hnm⟩) (hw _ (List.mem_of_getElem? (i := 1) rfl)) (ty := (.object "java/util/List")) (by decide) rfl rfl (g := (mkF m 23 #[rv b307] [(.ref b311), (.ref b307)])) rfl rfl (hb hby d1_23)
    have Fw377 := Fld.same W377 f376
    have K377 : Keep h0 h377 [b307] := Keep.wr K332 W377 (Or.inl (List.mem_of_getElem? (i := 0) rfl))
    have Z377 : n0 ≤ h377.size := Nat.le_trans Z332 (Keep.of_wr W377).1
    have N377 := Fr.snoc X377 N362 g_b307
    refine Goes.by st377 ?_
    refine Goes.by (fun _ kz => XS.aloadN X377.here hx rfl (hb hby d1_26) rfl rfl kz) ?_
    have f378 := (Sta.wr W377 (Sta.wr W332 (own_staKeep (u308_1.ext E311) Kq329 (allS (own_nsE A311) all0))))
    obtain ⟨_, _, ⟨T379, L379, k379, n379⟩, -, X379, ⟨Lc379, hQ379, l379, y379, z379⟩, st379⟩ := Jvm.LawKit.callS X377 hx (y := (⟨"java/util/Set", "of", "()Ljava/util/Set;"⟩ : MethodName)) hown (mvT hZ (hw _ (List.mem_of_getElem? (i := 80) rfl))) (mvT hZ (hw _ (List.mem_of_getElem? (i := 81) rfl))) (mvT hZ (hw _ (List.mem_of_getElem? (i := 82) rfl))) (mvT hZ (hw _ (List.mem_of_getElem? (i := 83) rfl))) (by decide) (backOf (W := 1) (r10_58 l Z a0 hw [] h377 n0 Z377 q2 f378) hZ (hw _ (List.mem_of_getElem? (i := 83) rfl)) (hw _ (List.mem_of_getElem? (i := 82) rfl)) (by decide) (by decide)) (g := (mkF m 27 #[rv b307] [(.ref b307)])) rfl (by rw [hml]; rfl) (argsL := []) (rest := [(.ref b307)]) (lenOf pd4 rfl) rfl (by show 2 * 0 + _ ≤ _; exact Nat.le_of_eq rfl) (hb hby d1_27) (fun _ _ => ⟨rfl, e377, (by decide : 2 + 0 ≤ _), (by decide : 5 + 0 ≤ _)⟩)
    dsimp only [Pt.U, Pt.locs, Pt.cells, Pt.slots] at X379 l379 y379 z379 st379 hQ379
    subst l379 y379 z379
    obtain ⟨rfl, Nq379, e379⟩ := hQ379
    have N379 := Fr.app N377 Nq379
    refine Goes.by st379 ?_
    have f380 := (Exa.wr W377 f360)
    have f381 := (Fld.other W377 (Fld.other W332 ((u308_5.ext E311).keep Kq329 (ninS ne311_b307 nin0)) (Or.inr (slot_ne (Or.inl (hw _ (List.mem_of_getElem? (i := 87) rfl))) (Or.inr (hw _ (List.mem_of_getElem? (i := 34) rfl))) (by decide) (t := (.object "java/util/Set")) (t' := (.object "java/util/List")) (by decide) (by decide)))) (Or.inr (slot_ne (Or.inl (hw _ (List.mem_of_getElem? (i := 87) rfl))) (Or.inr (hw _ (List.mem_of_getElem? (i := 79) rfl))) (by decide) (t := (.object "java/util/Set")) (t' := (.object "java/util/List")) (by decide) (by decide))))
    obtain ⟨T382, h382, X382, e382, W382, st382⟩ := putF X379 hx hZ hown (host := "") (Or.inl (hw _ (List.mem_of_getElem? (i := 86) rfl))) Via.refl e379 f381 f380 (Or.inl (hw _ (List.mem_of_getElem? (i := 87) rfl))) (hw _ (List.mem_of_getElem? (i := 1) rfl)) (ty := (.object "java/util/Set")) (by decide) rfl rfl (g := (mkF m 30 #[rv b307] [(.ref q2), (.ref b307)])) rfl rfl (hb hby d1_30)
    have Fw382 := Fld.same W382 f381
    have K382 : Keep h0 h382 [b307] := Keep.wr K377 W382 (Or.inl (List.mem_of_getElem? (i := 0) rfl))
    have Z382 : n0 ≤ h382.size := Nat.le_trans Z377 (Keep.of_wr W382).1
    have N382 := Fr.snoc X382 N379 g_b307
    refine Goes.by st382 ?_
    show Goes p e below (T382.setTop (mkF m 33 #[rv b307] [])) _
    have f383 := (Fld.other W382 (Fld.other W377 Fw332 (Or.inr (slot_ne (Or.inr (hw _ (List.mem_of_getElem? (i := 34) rfl))) (Or.inr (hw _ (List.mem_of_getElem? (i := 79) rfl))) (by decide) (t := (.object "java/util/List")) (t' := (.object "java/util/List")) (by decide) (by decide)))) (Or.inr (slot_ne (Or.inr (hw _ (List.mem_of_getElem? (i := 34) rfl))) (Or.inl (hw _ (List.mem_of_getElem? (i := 87) rfl))) (by decide) (t := (.object "java/util/List")) (t' := (.object "java/util/Set")) (by decide) (by decide))))
    have f384 := (Fld.other W382 Fw377 (Or.inr (slot_ne (Or.inr (hw _ (List.mem_of_getElem? (i := 79) rfl))) (Or.inl (hw _ (List.mem_of_getElem? (i := 87) rfl))) (by decide) (t := (.object "java/util/List")) (t' := (.object "java/util/Set")) (by decide) (by decide))))
    have f385 := (Fld.other W382 (Fld.other W377 (Fld.other W332 ((u308_6.ext E311).keep Kq329 (ninS ne311_b307 nin0)) (Or.inr (slot_ne (Or.inl (hw _ (List.mem_of_getElem? (i := 94) rfl))) (Or.inr (hw _ (List.mem_of_getElem? (i := 34) rfl))) (by decide) (t := .boolean) (t' := (.object "java/util/List")) (by decide) (by decide)))) (Or.inr (slot_ne (Or.inl (hw _ (List.mem_of_getElem? (i := 94) rfl))) (Or.inr (hw _ (List.mem_of_getElem? (i := 79) rfl))) (by decide) (t := .boolean) (t' := (.object "java/util/List")) (by decide) (by decide)))) (Or.inr (slot_ne (Or.inl (hw _ (List.mem_of_getElem? (i := 94) rfl))) (Or.inl (hw _ (List.mem_of_getElem? (i := 87) rfl))) (by decide) (t := .boolean) (t' := (.object "java/util/Set")) (by decide) (by decide))))
    have f386 := (Exa.wr W382 (Exa.wr W377 f361))
    have f387 := (Fld.other W382 (Fld.other W377 (Fld.other W332 fq329_0 (Or.inl (Ne.symm ne311_b307))) (Or.inl (Ne.symm ne311_b307))) (Or.inl (Ne.symm ne311_b307)))
    have f388 := (Fld.other W382 (Fld.other W377 (Fld.other W332 fq329_1 (Or.inl (Ne.symm ne311_b307))) (Or.inl (Ne.symm ne311_b307))) (Or.inl (Ne.symm ne311_b307)))
    obtain ⟨fs, hr, hrun, hended, hW, hsame⟩ := X382.leave (v := none) (fun _ => rfl)
    exact ⟨_, _, X382.returnOut hx Bd.returns (hb hby d1_33) hr, hrun, hended, _, _, rfl, (by rw [show (T382.setFrames fs).heap = h382 from e382]; exact (Or.inr (Or.inl ⟨b311, rfl, N382, K382, sz_b311, f383, f384, Fw382, f385, f386, f387, f388, hc362_338, hc362_341⟩))), ⟨_, rfl⟩, hW, hsame.mono (by decide) (by decide)⟩
  · obtain ⟨b343_362, rfl, Nq362, Kq362, sq362_b343, fq362_0, fq362_1, fq362_2, hc362_338, hc362_341⟩ := hQ362
    have K362 : Keep h0 T362.heap [b307] := Keep.trans K332 Kq362 all0
    have Z362 : n0 ≤ T362.heap.size := Nat.le_trans Z332 Kq362.1
    have ne362_b343_b307 : b307 ≠ b343_362 := Nat.ne_of_lt (Nat.lt_of_lt_of_le f360.lt sq362_b343)
    have ne362_b343_b311 : b311 ≠ b343_362 := Nat.ne_of_lt (Nat.lt_of_lt_of_le f361.lt sq362_b343)
    have g_b343_362 : n0 ≤ b343_362 := Nat.le_trans Z332 sq362_b343
    have sz_b343_362 : h0.size ≤ b343_362 := Nat.le_trans K332.1 sq362_b343
    have N362 := Fr.app N332 Nq362
    refine Goes.by st362 ?_
    have f389 := (f360.keep Kq362)
    have f390 := ((Fld.other W332 ((u308_4.ext E311).keep Kq329 (ninS ne311_b307 nin0)) (Or.inr (slot_ne (Or.inr (hw _ (List.mem_of_getElem? (i := 79) rfl))) (Or.inr (hw _ (List.mem_of_getElem? (i := 34) rfl))) (by decide) (t := (.object "java/util/List")) (t' := (.object "java/util/List")) (by decide) (by decide)))).keep Kq362 nin0)
    obtain ⟨T391, h391, X391, e391, W391, st391⟩ := putF X362 hx hZ hown (host := "") (Or.inl (hw _ (List.mem_of_getElem? (i := 78) rfl))) Via.refl rfl f390 f389 (Or.inr ⟨(hw _ (List.mem_of_getElem? (i := 79) rfl)), rfl, hnm⟩) (hw _ (List.mem_of_getElem? (i := 1) rfl)) (ty := (.object "java/util/List")) (by decide) rfl rfl (g := (mkF m 23 #[rv b307] [(.ref b343_362), (.ref b307)])) rfl rfl (hb hby d1_23)
    have Fw391 := Fld.same W391 f390
    have K391 : Keep h0 h391 [b307] := Keep.wr K362 W391 (Or.inl (List.mem_of_getElem? (i := 0) rfl))
    have Z391 : n0 ≤ h391.size := Nat.le_trans Z362 (Keep.of_wr W391).1
    have N391 := Fr.snoc X391 N362 g_b307
    refine Goes.by st391 ?_
    refine Goes.by (fun _ kz => XS.aloadN X391.here hx rfl (hb hby d1_26) rfl rfl kz) ?_
    have f392 := (Sta.wr W391 (own_staKeep (Sta.wr W332 (own_staKeep (u308_1.ext E311) Kq329 (allS (own_nsE A311) all0))) Kq362 all0))
    obtain ⟨_, _, ⟨T393, L393, k393, n393⟩, -, X393, ⟨Lc393, hQ393, l393, y393, z393⟩, st393⟩ := Jvm.LawKit.callS X391 hx (y := (⟨"java/util/Set", "of", "()Ljava/util/Set;"⟩ : MethodName)) hown (mvT hZ (hw _ (List.mem_of_getElem? (i := 80) rfl))) (mvT hZ (hw _ (List.mem_of_getElem? (i := 81) rfl))) (mvT hZ (hw _ (List.mem_of_getElem? (i := 82) rfl))) (mvT hZ (hw _ (List.mem_of_getElem? (i := 83) rfl))) (by decide) (backOf (W := 1) (r10_58 l Z a0 hw [] h391 n0 Z391 q2 f392) hZ (hw _ (List.mem_of_getElem? (i := 83) rfl)) (hw _ (List.mem_of_getElem? (i := 82) rfl)) (by decide) (by decide)) (g := (mkF m 27 #[rv b307] [(.ref b307)])) rfl (by rw [hml]; rfl) (argsL := []) (rest := [(.ref b307)]) (lenOf pd4 rfl) rfl (by show 2 * 0 + _ ≤ _; exact Nat.le_of_eq rfl) (hb hby d1_27) (fun _ _ => ⟨rfl, e391, (by decide : 2 + 0 ≤ _), (by decide : 5 + 0 ≤ _)⟩)
    dsimp only [Pt.U, Pt.locs, Pt.cells, Pt.slots] at X393 l393 y393 z393 st393 hQ393
    subst l393 y393 z393
    obtain ⟨rfl, Nq393, e393⟩ := hQ393
    have N393 := Fr.app N391 Nq393
    refine Goes.by st393 ?_
    have f394 := (Exa.wr W391 f389)
    have f395 := (Fld.other W391 ((Fld.other W332 ((u308_5.ext E311).keep Kq329 (ninS ne311_b307 nin0)) (Or.inr (slot_ne (Or.inl (hw _ (List.mem_of_getElem? (i := 87) rfl))) (Or.inr (hw _ (List.mem_of_getElem? (i := 34) rfl))) (by decide) (t := (.object "java/util/Set")) (t' := (.object "java/util/List")) (by decide) (by decide)))).keep Kq362 nin0) (Or.inr (slot_ne (Or.inl (hw _ (List.mem_of_getElem? (i := 87) rfl))) (Or.inr (hw _ (List.mem_of_getElem? (i := 79) rfl))) (by decide) (t := (.object "java/util/Set")) (t' := (.object "java/util/List")) (by decide) (by decide))))
    obtain ⟨T396, h396, X396, e396, W396, st396⟩ := putF X393 hx hZ hown (host := "") (Or.inl (hw _ (List.mem_of_getElem? (i := 86) rfl))) Via.refl e393 f395 f394 (Or.inl (hw _ (List.mem_of_getElem? (i := 87) rfl))) (hw _ (List.mem_of_getElem? (i := 1) rfl)) (ty := (.object "java/util/Set")) (by decide) rfl rfl (g := (mkF m 30 #[rv b307] [(.ref q2), (.ref b307)])) rfl rfl (hb hby d1_30)
    have Fw396 := Fld.same W396 f395
    have K396 : Keep h0 h396 [b307] := Keep.wr K391 W396 (Or.inl (List.mem_of_getElem? (i := 0) rfl))
    have Z396 : n0 ≤ h396.size := Nat.le_trans Z391 (Keep.of_wr W396).1
    have N396 := Fr.snoc X396 N393 g_b307
    refine Goes.by st396 ?_
    show Goes p e below (T396.setTop (mkF m 33 #[rv b307] [])) _
    have f397 := (Fld.other W396 (Fld.other W391 (Fw332.keep Kq362 nin0) (Or.inr (slot_ne (Or.inr (hw _ (List.mem_of_getElem? (i := 34) rfl))) (Or.inr (hw _ (List.mem_of_getElem? (i := 79) rfl))) (by decide) (t := (.object "java/util/List")) (t' := (.object "java/util/List")) (by decide) (by decide)))) (Or.inr (slot_ne (Or.inr (hw _ (List.mem_of_getElem? (i := 34) rfl))) (Or.inl (hw _ (List.mem_of_getElem? (i := 87) rfl))) (by decide) (t := (.object "java/util/List")) (t' := (.object "java/util/Set")) (by decide) (by decide))))
    have f398 := (Fld.other W396 Fw391 (Or.inr (slot_ne (Or.inr (hw _ (List.mem_of_getElem? (i := 79) rfl))) (Or.inl (hw _ (List.mem_of_getElem? (i := 87) rfl))) (by decide) (t := (.object "java/util/List")) (t' := (.object "java/util/Set")) (by decide) (by decide))))
    have f399 := (Fld.other W396 (Fld.other W391 ((Fld.other W332 ((u308_6.ext E311).keep Kq329 (ninS ne311_b307 nin0)) (Or.inr (slot_ne (Or.inl (hw _ (List.mem_of_getElem? (i := 94) rfl))) (Or.inr (hw _ (List.mem_of_getElem? (i := 34) rfl))) (by decide) (t := .boolean) (t' := (.object "java/util/List")) (by decide) (by decide)))).keep Kq362 nin0) (Or.inr (slot_ne (Or.inl (hw _ (List.mem_of_getElem? (i := 94) rfl))) (Or.inr (hw _ (List.mem_of_getElem? (i := 79) rfl))) (by decide) (t := .boolean) (t' := (.object "java/util/List")) (by decide) (by decide)))) (Or.inr (slot_ne (Or.inl (hw _ (List.mem_of_getElem? (i := 94) rfl))) (Or.inl (hw _ (List.mem_of_getElem? (i := 87) rfl))) (by decide) (t := .boolean) (t' := (.object "java/util/Set")) (by decide) (by decide))))
    have f400 := (Exa.wr W396 (Exa.wr W391 (f361.keep Kq362)))
    have f401 := (Fld.other W396 (Fld.other W391 ((Fld.other W332 fq329_0 (Or.inl (Ne.symm ne311_b307))).keep Kq362 nin0) (Or.inl (Ne.symm ne311_b307))) (Or.inl (Ne.symm ne311_b307)))
    have f402 := (Fld.other W396 (Fld.other W391 ((Fld.other W332 fq329_1 (Or.inl (Ne.symm ne311_b307))).keep Kq362 nin0) (Or.inl (Ne.symm ne311_b307))) (Or.inl (Ne.symm ne311_b307)))
    have f403 := (Exa.wr W396 (Exa.wr W391 fq362_0))
    have f404 := (Fld.other W396 (Fld.other W391 fq362_1 (Or.inl (Ne.symm ne362_b343_b307))) (Or.inl (Ne.symm ne362_b343_b307)))
    have f405 := (Fld.other W396 (Fld.other W391 fq362_2 (Or.inl (Ne.symm ne362_b343_b307))) (Or.inl (Ne.symm ne362_b343_b307)))
    obtain ⟨fs, hr, hrun, hended, hW, hsame⟩ := X396.leave (v := none) (fun _ => rfl)
    exact ⟨_, _, X396.returnOut hx Bd.returns (hb hby d1_33) hr, hrun, hended, _, _, rfl, (by rw [show (T396.setFrames fs).heap = h396 from e396]; exact (Or.inr (Or.inr ⟨b311, b343_362, rfl, N396, K396, sz_b311, sz_b343_362, f397, f398, Fw396, f399, f400, f401, f402, f403, f404, f405, hc362_338, hc362_341⟩))), ⟨_, rfl⟩, hW, hsame.mono (by decide) (by decide)⟩
def Q_r11_408 (Z : State) (b307 : Addr) (h0 : Heap) (n0 : Nat) (v : Option Value) (h : Heap) (L : List Loc) : Prop := (v = some (.int 0) ∧ Fr n0 L ∧ h = h0)
set_option maxRecDepth 65536 in
set_option maxHeartbeats 40000000 in
theorem r11_408 (l : Launch) (Z : State) (a0 : Array Value) (hw : ∀ d ∈ tables_1, d.before a0 Z = true) (ws : List Jvm.Cond) (h0 : Heap) (n0 : Nat) (Z0 : n0 ≤ h0.size) (b307 : Addr) (u409_6 : Fld Z h0 b307 "com/example/entail/entail/model/EntrySettings" "blocks" "Z" (.int 0))  :
    MetFree l (⟨"com/example/entail/entail/model/EntrySettings", "blocks", "()Z"⟩ : MethodName) (head1 (Jvm.Cond.code (⟨"com/example/entail/entail/model/EntrySettings", "blocks", "()Z"⟩ : MethodName) prog_7_method_3_code 1 (some .boolean) :: ws) ({ frames := 0, cells := 0, slots := 0, locals := 0 } : Room)) (fun a U => a = #[(.ref b307)] ∧ Z.Warmed39 U.vm ∧ U.heap = h0) (fun _ _ _ _ _ => True) (fun _ U o U' => ∃ v L, o = .returned v ∧ Q_r11_408 Z b307 h0 n0 v U'.heap L ∧ FrameEnd U o U' L ({ frames := 0, cells := 0, slots := 0, locals := 0 } : Room).cells ({ frames := 0, cells := 0, slots := 0, locals := 0 } : Room).slots) := by
  refine MetFree.of_bodySF (plainFor_of_name pn8) hisR ?_
  intro p e s m args below meth c s₁ Bd hml0 hP hK
  obtain ⟨rfl, hZ, hh⟩ := hP
  have hx := Bd.exec
  have hby := Bd.bytes
  have hml : c.maxLocals = 1 := hml0
  have hown : s.vm.findClass "com/example/entail/entail/model/EntrySettings" = some m.cls := findClass_of_methodNamed Bd.named
  have hnm := (name_of_methodNamed Bd.named Bd.method).1
  have X0 : Stand p l e ({ frames := 0, cells := 0, slots := 0, locals := 0 } : Room) s m #[(.ref b307)] below meth c s₁ [] 0 0 := Stand.of_body Bd
  have e0 : s₁.heap = h0 := by rw [← hh, Bd.state]; rfl
  have N0 := Fr.nil n0
  refine Goes.out (Goes.by (fun tz kz => castTop (ef11_R m b307) kz) ?_)
  show Goes p e below (s₁.setTop (mkF m 0 #[rv b307] [])) _
  refine Goes.by (fun _ kz => XS.aloadN X0.here hx rfl (hb hby d11_0) rfl rfl kz) ?_
  obtain ⟨T411, X411, e411, st411⟩ := getF X0 hx hZ hown (host := "") (Or.inl (hw _ (List.mem_of_getElem? (i := 93) rfl))) Via.refl e0 u409_6 (g := (mkF m 1 #[rv b307] [(.ref b307)])) rfl rfl (hb hby d11_1)
  refine Goes.by st411 ?_
  show Goes p e below (T411.setTop (mkF m 4 #[rv b307] [(.int 0)])) _
  obtain ⟨fs, hr, hrun, hended, hW, hsame⟩ := X411.leave (v := some (.int 0)) (fun h => by rw [Bd.returns] at h; cases h)
  exact ⟨_, _, retN X411 hx (t := .boolean) Bd.returns (by simp) (hb hby d11_4) hr, hrun, hended, _, _, rfl, ⟨rfl, N0, e411⟩, ⟨_, rfl⟩, hW, hsame.mono (by decide) (by decide)⟩
def Q_r12_413 (Z : State) (q2 : Addr) (b307 : Addr) (b311_408 : Addr) (h0 : Heap) (n0 : Nat) (v : Option Value) (h : Heap) (L : List Loc) : Prop := (v = some (.int 1) ∧ Fr n0 L ∧ Keep h0 h [b307] ∧ Fld Z h b307 "com/example/entail/entail/model/EntrySettings" "rules" "Ljava/util/List;" (.ref b311_408) ∧ Fld Z h b307 "com/example/entail/entail/model/EntrySettings" "rulesView" "Ljava/util/List;" (.ref b311_408) ∧ Fld Z h b307 "com/example/entail/entail/model/EntrySettings" "blockedTrusteesView" "Ljava/util/Set;" (.ref q2) ∧ Fld Z h b307 "com/example/entail/entail/model/EntrySettings" "blocks" "Z" (.int 1))
set_option maxRecDepth 65536 in
set_option maxHeartbeats 40000000 in
theorem r12_413 (l : Launch) (Z : State) (a0 : Array Value) (hw : ∀ d ∈ tables_1, d.before a0 Z = true) (ws : List Jvm.Cond) (h0 : Heap) (n0 : Nat) (Z0 : n0 ≤ h0.size) (q2 : Addr) (b307 : Addr) (b311_408 : Addr) (u414_2 : Exa Z h0 b307 "com/example/entail/entail/model/EntrySettings") (u414_3 : Fld Z h0 b307 "com/example/entail/entail/model/EntrySettings" "rules" "Ljava/util/List;" (.ref b311_408)) (u414_4 : Fld Z h0 b307 "com/example/entail/entail/model/EntrySettings" "rulesView" "Ljava/util/List;" (.ref b311_408)) (u414_5 : Fld Z h0 b307 "com/example/entail/entail/model/EntrySettings" "blockedTrusteesView" "Ljava/util/Set;" (.ref q2)) (u414_6 : Fld Z h0 b307 "com/example/entail/entail/model/EntrySettings" "blocks" "Z" (.int 0)) (g_b307 : n0 ≤ b307) :
    MetFree l (⟨"com/example/entail/entail/model/EntrySettings", "setBlocks", "(Z)Z"⟩ : MethodName) (head1 (Jvm.Cond.code (⟨"com/example/entail/entail/model/EntrySettings", "setBlocks", "(Z)Z"⟩ : MethodName) prog_7_method_7_code 3 (some .boolean) :: ws) ({ frames := 0, cells := 0, slots := 0, locals := 0 } : Room)) (fun a U => a = #[(.ref b307), (.int 1)] ∧ Z.Warmed39 U.vm ∧ U.heap = h0) (fun _ _ _ _ _ => True) (fun _ U o U' => ∃ v L, o = .returned v ∧ Q_r12_413 Z q2 b307 b311_408 h0 n0 v U'.heap L ∧ FrameEnd U o U' L ({ frames := 0, cells := 0, slots := 0, locals := 0 } : Room).cells ({ frames := 0, cells := 0, slots := 0, locals := 0 } : Room).slots) := by
  refine MetFree.of_bodySF (plainFor_of_name pn8) hisR ?_
  intro p e s m args below meth c s₁ Bd hml0 hP hK
  obtain ⟨rfl, hZ, hh⟩ := hP
  have hx := Bd.exec
  have hby := Bd.bytes
  have hml : c.maxLocals = 3 := hml0
  have hown : s.vm.findClass "com/example/entail/entail/model/EntrySettings" = some m.cls := findClass_of_methodNamed Bd.named
  have hnm := (name_of_methodNamed Bd.named Bd.method).1
  have X0 : Stand p l e ({ frames := 0, cells := 0, slots := 0, locals := 0 } : Room) s m #[(.ref b307), (.int 1)] below meth c s₁ [] 0 0 := Stand.of_body Bd
  have e0 : s₁.heap = h0 := by rw [← hh, Bd.state]; rfl
  have N0 := Fr.nil n0
  refine Goes.out (Goes.by (fun tz kz => castTop (ef12_RI m b307 ((1 : Int32))) kz) ?_)
  show Goes p e below (s₁.setTop (mkF m 0 #[rv b307, iv 1, .unset] [])) _
  refine Goes.by (fun _ kz => XS.aloadN X0.here hx rfl (hb hby d12_0) rfl rfl kz) ?_
  obtain ⟨T416, X416, e416, st416⟩ := getF X0 hx hZ hown (host := "") (Or.inl (hw _ (List.mem_of_getElem? (i := 93) rfl))) Via.refl e0 u414_6 (g := (mkF m 1 #[rv b307, iv 1, .unset] [(.ref b307)])) rfl rfl (hb hby d12_1)
  refine Goes.by st416 ?_
  refine Goes.by (fun _ kz => XS.iloadN X416.here hx rfl (hb hby d12_4) rfl (XS.icmpNo X416.here hx rfl (hb hby d12_5) rfl (feq (by decide : ¬ ((0 : Int32) = (1 : Int32)))).1 (XS.iconst X416.here hx rfl (hb hby d12_8) kz))) ?_
  show Goes p e below (T416.setTop (mkF m 9 #[rv b307, iv 1, .unset] [(.int 1)])) _
  refine Goes.by (fun _ kz => XS.goto X416.here hx rfl (pc0 := 9) (pc' := 13) rfl (hb hby d12_9) (by decide) (by decide) (XS.istoreN X416.here hx rfl (hb hby d12_13) rfl (l' := #[rv b307, iv 1, iv 1]) rfl (XS.aloadN X416.here hx rfl (hb hby d12_14) rfl rfl kz))) ?_
  show Goes p e below (T416.setTop (mkF m 15 #[rv b307, iv 1, iv 1] [(.ref b307)])) _
  refine Goes.by (fun _ kz => XS.iloadN X416.here hx rfl (hb hby d12_15) rfl kz) ?_
  obtain ⟨T417, h417, X417, e417, W417, st417⟩ := putFN X416 hx hZ hown (hw _ (List.mem_of_getElem? (i := 93) rfl)) Via.refl e416 u414_6 u414_2 (Or.inl (hw _ (List.mem_of_getElem? (i := 94) rfl))) (hw _ (List.mem_of_getElem? (i := 1) rfl)) (ty := .boolean) (v' := (.int 1)) (by decide) rfl rfl (g := (mkF m 16 #[rv b307, iv 1, iv 1] [(.int 1), (.ref b307)])) rfl rfl (hb hby d12_16)
  have Fw417 := Fld.same W417 u414_6
  have K417 : Keep h0 h417 [b307] := Keep.wr (Keep.refl h0 [b307]) W417 (Or.inl (List.mem_of_getElem? (i := 0) rfl))
  have Z417 : n0 ≤ h417.size := Nat.le_trans Z0 (Keep.of_wr W417).1
  have N417 := Fr.snoc X417 N0 g_b307
  refine Goes.by st417 ?_
  refine Goes.by (fun _ kz => XS.iloadN X417.here hx rfl (hb hby d12_19) rfl kz) ?_
  show Goes p e below (T417.setTop (mkF m 20 #[rv b307, iv 1, iv 1] [(.int 1)])) _
  have f418 := (Fld.other W417 u414_3 (Or.inr (slot_ne (Or.inr (hw _ (List.mem_of_getElem? (i := 34) rfl))) (Or.inl (hw _ (List.mem_of_getElem? (i := 94) rfl))) (by decide) (t := (.object "java/util/List")) (t' := .boolean) (by decide) (by decide))))
  have f419 := (Fld.other W417 u414_4 (Or.inr (slot_ne (Or.inr (hw _ (List.mem_of_getElem? (i := 79) rfl))) (Or.inl (hw _ (List.mem_of_getElem? (i := 94) rfl))) (by decide) (t := (.object "java/util/List")) (t' := .boolean) (by decide) (by decide))))
  have f420 := (Fld.other W417 u414_5 (Or.inr (slot_ne (Or.inl (hw _ (List.mem_of_getElem? (i := 87) rfl))) (Or.inl (hw _ (List.mem_of_getElem? (i := 94) rfl))) (by decide) (t := (.object "java/util/Set")) (t' := .boolean) (by decide) (by decide))))
  obtain ⟨fs, hr, hrun, hended, hW, hsame⟩ := X417.leave (v := some (.int 1)) (fun h => by rw [Bd.returns] at h; cases h)
  exact ⟨_, _, retN X417 hx (t := .boolean) Bd.returns (by simp) (hb hby d12_20) hr, hrun, hended, _, _, rfl, (by rw [show (T417.setFrames fs).heap = h417 from e417]; exact ⟨rfl, N417, K417, f418, f419, f420, Fw417⟩), ⟨_, rfl⟩, hW, hsame.mono (by decide) (by decide)⟩
def Q_r11_421 (Z : State) (b307 : Addr) (h0 : Heap) (n0 : Nat) (v : Option Value) (h : Heap) (L : List Loc) : Prop := (v = some (.int 1) ∧ Fr n0 L ∧ h = h0)
set_option maxRecDepth 65536 in
set_option maxHeartbeats 40000000 in
theorem r11_421 (l : Launch) (Z : State) (a0 : Array Value) (hw : ∀ d ∈ tables_1, d.before a0 Z = true) (ws : List Jvm.Cond) (h0 : Heap) (n0 : Nat) (Z0 : n0 ≤ h0.size) (b307 : Addr) (u422_9 : Fld Z h0 b307 "com/example/entail/entail/model/EntrySettings" "blocks" "Z" (.int 1))  :
    MetFree l (⟨"com/example/entail/entail/model/EntrySettings", "blocks", "()Z"⟩ : MethodName) (head1 (Jvm.Cond.code (⟨"com/example/entail/entail/model/EntrySettings", "blocks", "()Z"⟩ : MethodName) prog_7_method_3_code 1 (some .boolean) :: ws) ({ frames := 0, cells := 0, slots := 0, locals := 0 } : Room)) (fun a U => a = #[(.ref b307)] ∧ Z.Warmed39 U.vm ∧ U.heap = h0) (fun _ _ _ _ _ => True) (fun _ U o U' => ∃ v L, o = .returned v ∧ Q_r11_421 Z b307 h0 n0 v U'.heap L ∧ FrameEnd U o U' L ({ frames := 0, cells := 0, slots := 0, locals := 0 } : Room).cells ({ frames := 0, cells := 0, slots := 0, locals := 0 } : Room).slots) := by
  refine MetFree.of_bodySF (plainFor_of_name pn8) hisR ?_
  intro p e s m args below meth c s₁ Bd hml0 hP hK
  obtain ⟨rfl, hZ, hh⟩ := hP
  have hx := Bd.exec
  have hby := Bd.bytes
  have hml : c.maxLocals = 1 := hml0
  have hown : s.vm.findClass "com/example/entail/entail/model/EntrySettings" = some m.cls := findClass_of_methodNamed Bd.named
  have hnm := (name_of_methodNamed Bd.named Bd.method).1
  have X0 : Stand p l e ({ frames := 0, cells := 0, slots := 0, locals := 0 } : Room) s m #[(.ref b307)] below meth c s₁ [] 0 0 := Stand.of_body Bd
  have e0 : s₁.heap = h0 := by rw [← hh, Bd.state]; rfl
  have N0 := Fr.nil n0
  refine Goes.out (Goes.by (fun tz kz => castTop (ef11_R m b307) kz) ?_)
  show Goes p e below (s₁.setTop (mkF m 0 #[rv b307] [])) _
  refine Goes.by (fun _ kz => XS.aloadN X0.here hx rfl (hb hby d11_0) rfl rfl kz) ?_
  obtain ⟨T424, X424, e424, st424⟩ := getF X0 hx hZ hown (host := "") (Or.inl (hw _ (List.mem_of_getElem? (i := 93) rfl))) Via.refl e0 u422_9 (g := (mkF m 1 #[rv b307] [(.ref b307)])) rfl rfl (hb hby d11_1)
  refine Goes.by st424 ?_
  show Goes p e below (T424.setTop (mkF m 4 #[rv b307] [(.int 1)])) _
  obtain ⟨fs, hr, hrun, hended, hW, hsame⟩ := X424.leave (v := some (.int 1)) (fun h => by rw [Bd.returns] at h; cases h)
  exact ⟨_, _, retN X424 hx (t := .boolean) Bd.returns (by simp) (hb hby d11_4) hr, hrun, hended, _, _, rfl, ⟨rfl, N0, e424⟩, ⟨_, rfl⟩, hW, hsame.mono (by decide) (by decide)⟩
def Q_r12_426 (Z : State) (q2 : Addr) (b307 : Addr) (b311_408 : Addr) (h0 : Heap) (n0 : Nat) (v : Option Value) (h : Heap) (L : List Loc) : Prop := (v = some (.int 1) ∧ Fr n0 L ∧ Keep h0 h [b307] ∧ Fld Z h b307 "com/example/entail/entail/model/EntrySettings" "rules" "Ljava/util/List;" (.ref b311_408) ∧ Fld Z h b307 "com/example/entail/entail/model/EntrySettings" "rulesView" "Ljava/util/List;" (.ref b311_408) ∧ Fld Z h b307 "com/example/entail/entail/model/EntrySettings" "blockedTrusteesView" "Ljava/util/Set;" (.ref q2) ∧ Fld Z h b307 "com/example/entail/entail/model/EntrySettings" "blocks" "Z" (.int 0))
set_option maxRecDepth 65536 in
set_option maxHeartbeats 40000000 in
theorem r12_426 (l : Launch) (Z : State) (a0 : Array Value) (hw : ∀ d ∈ tables_1, d.before a0 Z = true) (ws : List Jvm.Cond) (h0 : Heap) (n0 : Nat) (Z0 : n0 ≤ h0.size) (q2 : Addr) (b307 : Addr) (b311_408 : Addr) (u427_2 : Exa Z h0 b307 "com/example/entail/entail/model/EntrySettings") (u427_6 : Fld Z h0 b307 "com/example/entail/entail/model/EntrySettings" "rules" "Ljava/util/List;" (.ref b311_408)) (u427_7 : Fld Z h0 b307 "com/example/entail/entail/model/EntrySettings" "rulesView" "Ljava/util/List;" (.ref b311_408)) (u427_8 : Fld Z h0 b307 "com/example/entail/entail/model/EntrySettings" "blockedTrusteesView" "Ljava/util/Set;" (.ref q2)) (u427_9 : Fld Z h0 b307 "com/example/entail/entail/model/EntrySettings" "blocks" "Z" (.int 1)) (g_b307 : n0 ≤ b307) :
    MetFree l (⟨"com/example/entail/entail/model/EntrySettings", "setBlocks", "(Z)Z"⟩ : MethodName) (head1 (Jvm.Cond.code (⟨"com/example/entail/entail/model/EntrySettings", "setBlocks", "(Z)Z"⟩ : MethodName) prog_7_method_7_code 3 (some .boolean) :: ws) ({ frames := 0, cells := 0, slots := 0, locals := 0 } : Room)) (fun a U => a = #[(.ref b307), (.int 0)] ∧ Z.Warmed39 U.vm ∧ U.heap = h0) (fun _ _ _ _ _ => True) (fun _ U o U' => ∃ v L, o = .returned v ∧ Q_r12_426 Z q2 b307 b311_408 h0 n0 v U'.heap L ∧ FrameEnd U o U' L ({ frames := 0, cells := 0, slots := 0, locals := 0 } : Room).cells ({ frames := 0, cells := 0, slots := 0, locals := 0 } : Room).slots) := by
  refine MetFree.of_bodySF (plainFor_of_name pn8) hisR ?_
  intro p e s m args below meth c s₁ Bd hml0 hP hK
  obtain ⟨rfl, hZ, hh⟩ := hP
  have hx := Bd.exec
  have hby := Bd.bytes
  have hml : c.maxLocals = 3 := hml0
  have hown : s.vm.findClass "com/example/entail/entail/model/EntrySettings" = some m.cls := findClass_of_methodNamed Bd.named
  have hnm := (name_of_methodNamed Bd.named Bd.method).1
  have X0 : Stand p l e ({ frames := 0, cells := 0, slots := 0, locals := 0 } : Room) s m #[(.ref b307), (.int 0)] below meth c s₁ [] 0 0 := Stand.of_body Bd
  have e0 : s₁.heap = h0 := by rw [← hh, Bd.state]; rfl
  have N0 := Fr.nil n0
  refine Goes.out (Goes.by (fun tz kz => castTop (ef12_RI m b307 ((0 : Int32))) kz) ?_)
  show Goes p e below (s₁.setTop (mkF m 0 #[rv b307, iv 0, .unset] [])) _
  refine Goes.by (fun _ kz => XS.aloadN X0.here hx rfl (hb hby d12_0) rfl rfl kz) ?_
  obtain ⟨T429, X429, e429, st429⟩ := getF X0 hx hZ hown (host := "") (Or.inl (hw _ (List.mem_of_getElem? (i := 93) rfl))) Via.refl e0 u427_9 (g := (mkF m 1 #[rv b307, iv 0, .unset] [(.ref b307)])) rfl rfl (hb hby d12_1)
  refine Goes.by st429 ?_
  refine Goes.by (fun _ kz => XS.iloadN X429.here hx rfl (hb hby d12_4) rfl (XS.icmpNo X429.here hx rfl (hb hby d12_5) rfl (feq (by decide : ¬ ((1 : Int32) = (0 : Int32)))).1 (XS.iconst X429.here hx rfl (hb hby d12_8) kz))) ?_
  show Goes p e below (T429.setTop (mkF m 9 #[rv b307, iv 0, .unset] [(.int 1)])) _
  refine Goes.by (fun _ kz => XS.goto X429.here hx rfl (pc0 := 9) (pc' := 13) rfl (hb hby d12_9) (by decide) (by decide) (XS.istoreN X429.here hx rfl (hb hby d12_13) rfl (l' := #[rv b307, iv 0, iv 1]) rfl (XS.aloadN X429.here hx rfl (hb hby d12_14) rfl rfl kz))) ?_
  show Goes p e below (T429.setTop (mkF m 15 #[rv b307, iv 0, iv 1] [(.ref b307)])) _
  refine Goes.by (fun _ kz => XS.iloadN X429.here hx rfl (hb hby d12_15) rfl kz) ?_
  obtain ⟨T430, h430, X430, e430, W430, st430⟩ := putFN X429 hx hZ hown (hw _ (List.mem_of_getElem? (i := 93) rfl)) Via.refl e429 u427_9 u427_2 (Or.inl (hw _ (List.mem_of_getElem? (i := 94) rfl))) (hw _ (List.mem_of_getElem? (i := 1) rfl)) (ty := .boolean) (v' := (.int 0)) (by decide) rfl rfl (g := (mkF m 16 #[rv b307, iv 0, iv 1] [(.int 0), (.ref b307)])) rfl rfl (hb hby d12_16)
  have Fw430 := Fld.same W430 u427_9
  have K430 : Keep h0 h430 [b307] := Keep.wr (Keep.refl h0 [b307]) W430 (Or.inl (List.mem_of_getElem? (i := 0) rfl))
  have Z430 : n0 ≤ h430.size := Nat.le_trans Z0 (Keep.of_wr W430).1
  have N430 := Fr.snoc X430 N0 g_b307
  refine Goes.by st430 ?_
  refine Goes.by (fun _ kz => XS.iloadN X430.here hx rfl (hb hby d12_19) rfl kz) ?_
  show Goes p e below (T430.setTop (mkF m 20 #[rv b307, iv 0, iv 1] [(.int 1)])) _
  have f431 := (Fld.other W430 u427_6 (Or.inr (slot_ne (Or.inr (hw _ (List.mem_of_getElem? (i := 34) rfl))) (Or.inl (hw _ (List.mem_of_getElem? (i := 94) rfl))) (by decide) (t := (.object "java/util/List")) (t' := .boolean) (by decide) (by decide))))
  have f432 := (Fld.other W430 u427_7 (Or.inr (slot_ne (Or.inr (hw _ (List.mem_of_getElem? (i := 79) rfl))) (Or.inl (hw _ (List.mem_of_getElem? (i := 94) rfl))) (by decide) (t := (.object "java/util/List")) (t' := .boolean) (by decide) (by decide))))
  have f433 := (Fld.other W430 u427_8 (Or.inr (slot_ne (Or.inl (hw _ (List.mem_of_getElem? (i := 87) rfl))) (Or.inl (hw _ (List.mem_of_getElem? (i := 94) rfl))) (by decide) (t := (.object "java/util/Set")) (t' := .boolean) (by decide) (by decide))))
  obtain ⟨fs, hr, hrun, hended, hW, hsame⟩ := X430.leave (v := some (.int 1)) (fun h => by rw [Bd.returns] at h; cases h)
  exact ⟨_, _, retN X430 hx (t := .boolean) Bd.returns (by simp) (hb hby d12_20) hr, hrun, hended, _, _, rfl, (by rw [show (T430.setFrames fs).heap = h430 from e430]; exact ⟨rfl, N430, K430, f431, f432, f433, Fw430⟩), ⟨_, rfl⟩, hW, hsame.mono (by decide) (by decide)⟩
def Q_r12_446 (Z : State) (q2 : Addr) (b307 : Addr) (b311_408 : Addr) (b343_362_408 : Addr) (h0 : Heap) (n0 : Nat) (v : Option Value) (h : Heap) (L : List Loc) : Prop := (v = some (.int 1) ∧ Fr n0 L ∧ Keep h0 h [b307] ∧ Fld Z h b307 "com/example/entail/entail/model/EntrySettings" "rules" "Ljava/util/List;" (.ref b311_408) ∧ Fld Z h b307 "com/example/entail/entail/model/EntrySettings" "rulesView" "Ljava/util/List;" (.ref b343_362_408) ∧ Fld Z h b307 "com/example/entail/entail/model/EntrySettings" "blockedTrusteesView" "Ljava/util/Set;" (.ref q2) ∧ Fld Z h b307 "com/example/entail/entail/model/EntrySettings" "blocks" "Z" (.int 1))
set_option maxRecDepth 65536 in
set_option maxHeartbeats 40000000 in
theorem r12_446 (l : Launch) (Z : State) (a0 : Array Value) (hw : ∀ d ∈ tables_1, d.before a0 Z = true) (ws : List Jvm.Cond) (h0 : Heap) (n0 : Nat) (Z0 : n0 ≤ h0.size) (q2 : Addr) (b307 : Addr) (b311_408 : Addr) (b343_362_408 : Addr) (u447_2 : Exa Z h0 b307 "com/example/entail/entail/model/EntrySettings") (u447_3 : Fld Z h0 b307 "com/example/entail/entail/model/EntrySettings" "rules" "Ljava/util/List;" (.ref b311_408)) (u447_4 : Fld Z h0 b307 "com/example/entail/entail/model/EntrySettings" "rulesView" "Ljava/util/List;" (.ref b343_362_408)) (u447_5 : Fld Z h0 b307 "com/example/entail/entail/model/EntrySettings" "blockedTrusteesView" "Ljava/util/Set;" (.ref q2)) (u447_6 : Fld Z h0 b307 "com/example/entail/entail/model/EntrySettings" "blocks" "Z" (.int 0)) (g_b307 : n0 ≤ b307) :
    MetFree l (⟨"com/example/entail/entail/model/EntrySettings", "setBlocks", "(Z)Z"⟩ : MethodName) (head1 (Jvm.Cond.code (⟨"com/example/entail/entail/model/EntrySettings", "setBlocks", "(Z)Z"⟩ : MethodName) prog_7_method_7_code 3 (some .boolean) :: ws) ({ frames := 0, cells := 0, slots := 0, locals := 0 } : Room)) (fun a U => a = #[(.ref b307), (.int 1)] ∧ Z.Warmed39 U.vm ∧ U.heap = h0) (fun _ _ _ _ _ => True) (fun _ U o U' => ∃ v L, o = .returned v ∧ Q_r12_446 Z q2 b307 b311_408 b343_362_408 h0 n0 v U'.heap L ∧ FrameEnd U o U' L ({ frames := 0, cells := 0, slots := 0, locals := 0 } : Room).cells ({ frames := 0, cells := 0, slots := 0, locals := 0 } : Room).slots) := by
  refine MetFree.of_bodySF (plainFor_of_name pn8) hisR ?_
  intro p e s m args below meth c s₁ Bd hml0 hP hK
  obtain ⟨rfl, hZ, hh⟩ := hP
  have hx := Bd.exec
  have hby := Bd.bytes
  have hml : c.maxLocals = 3 := hml0
  have hown : s.vm.findClass "com/example/entail/entail/model/EntrySettings" = some m.cls := findClass_of_methodNamed Bd.named
  have hnm := (name_of_methodNamed Bd.named Bd.method).1
  have X0 : Stand p l e ({ frames := 0, cells := 0, slots := 0, locals := 0 } : Room) s m #[(.ref b307), (.int 1)] below meth c s₁ [] 0 0 := Stand.of_body Bd
  have e0 : s₁.heap = h0 := by rw [← hh, Bd.state]; rfl
  have N0 := Fr.nil n0
  refine Goes.out (Goes.by (fun tz kz => castTop (ef12_RI m b307 ((1 : Int32))) kz) ?_)
  show Goes p e below (s₁.setTop (mkF m 0 #[rv b307, iv 1, .unset] [])) _
  refine Goes.by (fun _ kz => XS.aloadN X0.here hx rfl (hb hby d12_0) rfl rfl kz) ?_
  obtain ⟨T449, X449, e449, st449⟩ := getF X0 hx hZ hown (host := "") (Or.inl (hw _ (List.mem_of_getElem? (i := 93) rfl))) Via.refl e0 u447_6 (g := (mkF m 1 #[rv b307, iv 1, .unset] [(.ref b307)])) rfl rfl (hb hby d12_1)
  refine Goes.by st449 ?_
  refine Goes.by (fun _ kz => XS.iloadN X449.here hx rfl (hb hby d12_4) rfl (XS.icmpNo X449.here hx rfl (hb hby d12_5) rfl (feq (by decide : ¬ ((0 : Int32) = (1 : Int32)))).1 (XS.iconst X449.here hx rfl (hb hby d12_8) kz))) ?_
  show Goes p e below (T449.setTop (mkF m 9 #[rv b307, iv 1, .unset] [(.int 1)])) _
  refine Goes.by (fun _ kz => XS.goto X449.here hx rfl (pc0 := 9) (pc' := 13) rfl (hb hby d12_9) (by decide) (by decide) (XS.istoreN X449.here hx rfl (hb hby d12_13) rfl (l' := #[rv b307, iv 1, iv 1]) rfl (XS.aloadN X449.here hx rfl (hb hby d12_14) rfl rfl kz))) ?_
  show Goes p e below (T449.setTop (mkF m 15 #[rv b307, iv 1, iv 1] [(.ref b307)])) _
  refine Goes.by (fun _ kz => XS.iloadN X449.here hx rfl (hb hby d12_15) rfl kz) ?_
  obtain ⟨T450, h450, X450, e450, W450, st450⟩ := putFN X449 hx hZ hown (hw _ (List.mem_of_getElem? (i := 93) rfl)) Via.refl e449 u447_6 u447_2 (Or.inl (hw _ (List.mem_of_getElem? (i := 94) rfl))) (hw _ (List.mem_of_getElem? (i := 1) rfl)) (ty := .boolean) (v' := (.int 1)) (by decide) rfl rfl (g := (mkF m 16 #[rv b307, iv 1, iv 1] [(.int 1), (.ref b307)])) rfl rfl (hb hby d12_16)
  have Fw450 := Fld.same W450 u447_6
  have K450 : Keep h0 h450 [b307] := Keep.wr (Keep.refl h0 [b307]) W450 (Or.inl (List.mem_of_getElem? (i := 0) rfl))
  have Z450 : n0 ≤ h450.size := Nat.le_trans Z0 (Keep.of_wr W450).1
  have N450 := Fr.snoc X450 N0 g_b307
  refine Goes.by st450 ?_
  refine Goes.by (fun _ kz => XS.iloadN X450.here hx rfl (hb hby d12_19) rfl kz) ?_
  show Goes p e below (T450.setTop (mkF m 20 #[rv b307, iv 1, iv 1] [(.int 1)])) _
  have f451 := (Fld.other W450 u447_3 (Or.inr (slot_ne (Or.inr (hw _ (List.mem_of_getElem? (i := 34) rfl))) (Or.inl (hw _ (List.mem_of_getElem? (i := 94) rfl))) (by decide) (t := (.object "java/util/List")) (t' := .boolean) (by decide) (by decide))))
  have f452 := (Fld.other W450 u447_4 (Or.inr (slot_ne (Or.inr (hw _ (List.mem_of_getElem? (i := 79) rfl))) (Or.inl (hw _ (List.mem_of_getElem? (i := 94) rfl))) (by decide) (t := (.object "java/util/List")) (t' := .boolean) (by decide) (by decide))))
  have f453 := (Fld.other W450 u447_5 (Or.inr (slot_ne (Or.inl (hw _ (List.mem_of_getElem? (i := 87) rfl))) (Or.inl (hw _ (List.mem_of_getElem? (i := 94) rfl))) (by decide) (t := (.object "java/util/Set")) (t' := .boolean) (by decide) (by decide))))
  obtain ⟨fs, hr, hrun, hended, hW, hsame⟩ := X450.leave (v := some (.int 1)) (fun h => by rw [Bd.returns] at h; cases h)
  exact ⟨_, _, retN X450 hx (t := .boolean) Bd.returns (by simp) (hb hby d12_20) hr, hrun, hended, _, _, rfl, (by rw [show (T450.setFrames fs).heap = h450 from e450]; exact ⟨rfl, N450, K450, f451, f452, f453, Fw450⟩), ⟨_, rfl⟩, hW, hsame.mono (by decide) (by decide)⟩
def Q_r12_456 (Z : State) (q2 : Addr) (b307 : Addr) (b311_408 : Addr) (b343_362_408 : Addr) (h0 : Heap) (n0 : Nat) (v : Option Value) (h : Heap) (L : List Loc) : Prop := (v = some (.int 1) ∧ Fr n0 L ∧ Keep h0 h [b307] ∧ Fld Z h b307 "com/example/entail/entail/model/EntrySettings" "rules" "Ljava/util/List;" (.ref b311_408) ∧ Fld Z h b307 "com/example/entail/entail/model/EntrySettings" "rulesView" "Ljava/util/List;" (.ref b343_362_408) ∧ Fld Z h b307 "com/example/entail/entail/model/EntrySettings" "blockedTrusteesView" "Ljava/util/Set;" (.ref q2) ∧ Fld Z h b307 "com/example/entail/entail/model/EntrySettings" "blocks" "Z" (.int 0))
set_option maxRecDepth 65536 in
set_option maxHeartbeats 40000000 in
theorem r12_456 (l : Launch) (Z : State) (a0 : Array Value) (hw : ∀ d ∈ tables_1, d.before a0 Z = true) (ws : List Jvm.Cond) (h0 : Heap) (n0 : Nat) (Z0 : n0 ≤ h0.size) (q2 : Addr) (b307 : Addr) (b311_408 : Addr) (b343_362_408 : Addr) (u457_2 : Exa Z h0 b307 "com/example/entail/entail/model/EntrySettings") (u457_9 : Fld Z h0 b307 "com/example/entail/entail/model/EntrySettings" "rules" "Ljava/util/List;" (.ref b311_408)) (u457_10 : Fld Z h0 b307 "com/example/entail/entail/model/EntrySettings" "rulesView" "Ljava/util/List;" (.ref b343_362_408)) (u457_11 : Fld Z h0 b307 "com/example/entail/entail/model/EntrySettings" "blockedTrusteesView" "Ljava/util/Set;" (.ref q2)) (u457_12 : Fld Z h0 b307 "com/example/entail/entail/model/EntrySettings" "blocks" "Z" (.int 1)) (g_b307 : n0 ≤ b307) :
    MetFree l (⟨"com/example/entail/entail/model/EntrySettings", "setBlocks", "(Z)Z"⟩ : MethodName) (head1 (Jvm.Cond.code (⟨"com/example/entail/entail/model/EntrySettings", "setBlocks", "(Z)Z"⟩ : MethodName) prog_7_method_7_code 3 (some .boolean) :: ws) ({ frames := 0, cells := 0, slots := 0, locals := 0 } : Room)) (fun a U => a = #[(.ref b307), (.int 0)] ∧ Z.Warmed39 U.vm ∧ U.heap = h0) (fun _ _ _ _ _ => True) (fun _ U o U' => ∃ v L, o = .returned v ∧ Q_r12_456 Z q2 b307 b311_408 b343_362_408 h0 n0 v U'.heap L ∧ FrameEnd U o U' L ({ frames := 0, cells := 0, slots := 0, locals := 0 } : Room).cells ({ frames := 0, cells := 0, slots := 0, locals := 0 } : Room).slots) := by
  refine MetFree.of_bodySF (plainFor_of_name pn8) hisR ?_
  intro p e s m args below meth c s₁ Bd hml0 hP hK
  obtain ⟨rfl, hZ, hh⟩ := hP
  have hx := Bd.exec
  have hby := Bd.bytes
  have hml : c.maxLocals = 3 := hml0
  have hown : s.vm.findClass "com/example/entail/entail/model/EntrySettings" = some m.cls := findClass_of_methodNamed Bd.named
  have hnm := (name_of_methodNamed Bd.named Bd.method).1
  have X0 : Stand p l e ({ frames := 0, cells := 0, slots := 0, locals := 0 } : Room) s m #[(.ref b307), (.int 0)] below meth c s₁ [] 0 0 := Stand.of_body Bd
  have e0 : s₁.heap = h0 := by rw [← hh, Bd.state]; rfl
  have N0 := Fr.nil n0
  refine Goes.out (Goes.by (fun tz kz => castTop (ef12_RI m b307 ((0 : Int32))) kz) ?_)
  show Goes p e below (s₁.setTop (mkF m 0 #[rv b307, iv 0, .unset] [])) _
  refine Goes.by (fun _ kz => XS.aloadN X0.here hx rfl (hb hby d12_0) rfl rfl kz) ?_
  obtain ⟨T459, X459, e459, st459⟩ := getF X0 hx hZ hown (host := "") (Or.inl (hw _ (List.mem_of_getElem? (i := 93) rfl))) Via.refl e0 u457_12 (g := (mkF m 1 #[rv b307, iv 0, .unset] [(.ref b307)])) rfl rfl (hb hby d12_1)
  refine Goes.by st459 ?_
  refine Goes.by (fun _ kz => XS.iloadN X459.here hx rfl (hb hby d12_4) rfl (XS.icmpNo X459.here hx rfl (hb hby d12_5) rfl (feq (by decide : ¬ ((1 : Int32) = (0 : Int32)))).1 (XS.iconst X459.here hx rfl (hb hby d12_8) kz))) ?_
  show Goes p e below (T459.setTop (mkF m 9 #[rv b307, iv 0, .unset] [(.int 1)])) _
  refine Goes.by (fun _ kz => XS.goto X459.here hx rfl (pc0 := 9) (pc' := 13) rfl (hb hby d12_9) (by decide) (by decide) (XS.istoreN X459.here hx rfl (hb hby d12_13) rfl (l' := #[rv b307, iv 0, iv 1]) rfl (XS.aloadN X459.here hx rfl (hb hby d12_14) rfl rfl kz))) ?_
  show Goes p e below (T459.setTop (mkF m 15 #[rv b307, iv 0, iv 1] [(.ref b307)])) _
  refine Goes.by (fun _ kz => XS.iloadN X459.here hx rfl (hb hby d12_15) rfl kz) ?_
  obtain ⟨T460, h460, X460, e460, W460, st460⟩ := putFN X459 hx hZ hown (hw _ (List.mem_of_getElem? (i := 93) rfl)) Via.refl e459 u457_12 u457_2 (Or.inl (hw _ (List.mem_of_getElem? (i := 94) rfl))) (hw _ (List.mem_of_getElem? (i := 1) rfl)) (ty := .boolean) (v' := (.int 0)) (by decide) rfl rfl (g := (mkF m 16 #[rv b307, iv 0, iv 1] [(.int 0), (.ref b307)])) rfl rfl (hb hby d12_16)
  have Fw460 := Fld.same W460 u457_12
  have K460 : Keep h0 h460 [b307] := Keep.wr (Keep.refl h0 [b307]) W460 (Or.inl (List.mem_of_getElem? (i := 0) rfl))
  have Z460 : n0 ≤ h460.size := Nat.le_trans Z0 (Keep.of_wr W460).1
  have N460 := Fr.snoc X460 N0 g_b307
  refine Goes.by st460 ?_
  refine Goes.by (fun _ kz => XS.iloadN X460.here hx rfl (hb hby d12_19) rfl kz) ?_
  show Goes p e below (T460.setTop (mkF m 20 #[rv b307, iv 0, iv 1] [(.int 1)])) _
  have f461 := (Fld.other W460 u457_9 (Or.inr (slot_ne (Or.inr (hw _ (List.mem_of_getElem? (i := 34) rfl))) (Or.inl (hw _ (List.mem_of_getElem? (i := 94) rfl))) (by decide) (t := (.object "java/util/List")) (t' := .boolean) (by decide) (by decide))))
  have f462 := (Fld.other W460 u457_10 (Or.inr (slot_ne (Or.inr (hw _ (List.mem_of_getElem? (i := 79) rfl))) (Or.inl (hw _ (List.mem_of_getElem? (i := 94) rfl))) (by decide) (t := (.object "java/util/List")) (t' := .boolean) (by decide) (by decide))))
  have f463 := (Fld.other W460 u457_11 (Or.inr (slot_ne (Or.inl (hw _ (List.mem_of_getElem? (i := 87) rfl))) (Or.inl (hw _ (List.mem_of_getElem? (i := 94) rfl))) (by decide) (t := (.object "java/util/Set")) (t' := .boolean) (by decide) (by decide))))
  obtain ⟨fs, hr, hrun, hended, hW, hsame⟩ := X460.leave (v := some (.int 1)) (fun h => by rw [Bd.returns] at h; cases h)
  exact ⟨_, _, retN X460 hx (t := .boolean) Bd.returns (by simp) (hb hby d12_20) hr, hrun, hended, _, _, rfl, (by rw [show (T460.setFrames fs).heap = h460 from e460]; exact ⟨rfl, N460, K460, f461, f462, f463, Fw460⟩), ⟨_, rfl⟩, hW, hsame.mono (by decide) (by decide)⟩
def Q_r5_475 (Z : State) (b471 : Addr) (h0 : Heap) (n0 : Nat) (v : Option Value) (h : Heap) (L : List Loc) : Prop := (v = none ∧ Fr n0 L ∧ h = h0)
set_option maxRecDepth 65536 in
set_option maxHeartbeats 40000000 in
theorem r5_475 (l : Launch) (Z : State) (a0 : Array Value) (hw : ∀ d ∈ tables_1, d.before a0 Z = true) (ws : List Jvm.Cond) (h0 : Heap) (n0 : Nat) (Z0 : n0 ≤ h0.size) (b471 : Addr)   :
    MetFree l (⟨"java/util/AbstractCollection", "<init>", "()V"⟩ : MethodName) (head1 (Jvm.Cond.code (⟨"java/util/AbstractCollection", "<init>", "()V"⟩ : MethodName) jdk_22_method_1_code 1 none :: ws) ({ frames := 1, cells := 0, slots := 0, locals := 12 } : Room)) (fun a U => a = #[(.ref b471)] ∧ Z.Warmed39 U.vm ∧ U.heap = h0) (fun _ _ _ _ _ => True) (fun _ U o U' => ∃ v L, o = .returned v ∧ Q_r5_475 Z b471 h0 n0 v U'.heap L ∧ FrameEnd U o U' L ({ frames := 1, cells := 0, slots := 0, locals := 12 } : Room).cells ({ frames := 1, cells := 0, slots := 0, locals := 12 } : Room).slots) := by
  refine MetFree.of_bodySF (plainFor_of_name pn0) hisR ?_
  intro p e s m args below meth c s₁ Bd hml0 hP hK
  obtain ⟨rfl, hZ, hh⟩ := hP
  have hx := Bd.exec
  have hby := Bd.bytes
  have hml : c.maxLocals = 1 := hml0
  have hown : s.vm.findClass "java/util/AbstractCollection" = some m.cls := findClass_of_methodNamed Bd.named
  have hnm := (name_of_methodNamed Bd.named Bd.method).1
  have X0 : Stand p l e ({ frames := 1, cells := 0, slots := 0, locals := 12 } : Room) s m #[(.ref b471)] below meth c s₁ [] 0 0 := Stand.of_body Bd
  have e0 : s₁.heap = h0 := by rw [← hh, Bd.state]; rfl
  have N0 := Fr.nil n0
  refine Goes.out (Goes.by (fun tz kz => castTop (ef5_R m b471) kz) ?_)
  show Goes p e below (s₁.setTop (mkF m 0 #[rv b471] [])) _
  refine Goes.by (fun _ kz => XS.aloadN X0.here hx rfl (hb hby d5_0) rfl rfl kz) ?_
  obtain ⟨T478, X478, e478, st478⟩ := initO X0 hx hZ hown (hw _ (List.mem_of_getElem? (i := 27) rfl)) (hw _ (List.mem_of_getElem? (i := 7) rfl)) (hw _ (List.mem_of_getElem? (i := 8) rfl)) e0 (g := (mkF m 1 #[rv b471] [(.ref b471)])) rfl (by rw [hml]; rfl) rfl (hb hby d5_1) (by decide) (W := 0) (by show 2 * 0 + _ ≤ _; exact Nat.le_of_eq rfl) (by decide)
  refine Goes.by st478 ?_
  show Goes p e below (T478.setTop (mkF m 4 #[rv b471] [])) _
  obtain ⟨fs, hr, hrun, hended, hW, hsame⟩ := X478.leave (v := none) (fun _ => rfl)
  exact ⟨_, _, X478.returnOut hx Bd.returns (hb hby d5_4) hr, hrun, hended, _, _, rfl, ⟨rfl, N0, e478⟩, ⟨_, rfl⟩, hW, hsame.mono (by decide) (by decide)⟩
def Q_r4_473 (Z : State) (b471 : Addr) (h0 : Heap) (n0 : Nat) (v : Option Value) (h : Heap) (L : List Loc) : Prop := (v = none ∧ Fr n0 L ∧ Keep h0 h [b471] ∧ Fld Z h b471 "java/util/AbstractList" "modCount" "I" (.int 0) ∧ Fld Z h b471 "java/util/ArrayList" "elementData" "[Ljava/lang/Object;" .null)
set_option maxRecDepth 65536 in
set_option maxHeartbeats 40000000 in
theorem r4_473 (l : Launch) (Z : State) (a0 : Array Value) (hw : ∀ d ∈ tables_1, d.before a0 Z = true) (ws : List Jvm.Cond) (h0 : Heap) (n0 : Nat) (Z0 : n0 ≤ h0.size) (b471 : Addr) (u474_7 : Exa Z h0 b471 "java/util/ArrayList") (u474_8 : Fld Z h0 b471 "java/util/AbstractList" "modCount" "I" (.int 0)) (u474_9 : Fld Z h0 b471 "java/util/ArrayList" "elementData" "[Ljava/lang/Object;" .null) (g_b471 : n0 ≤ b471) :
    MetFree l (⟨"java/util/AbstractList", "<init>", "()V"⟩ : MethodName) (head1 (Jvm.Cond.code (⟨"java/util/AbstractList", "<init>", "()V"⟩ : MethodName) jdk_39_method_1_code 1 none :: ws) ({ frames := 2, cells := 0, slots := 0, locals := 24 } : Room)) (fun a U => a = #[(.ref b471)] ∧ Z.Warmed39 U.vm ∧ U.heap = h0) (fun _ _ _ _ _ => True) (fun _ U o U' => ∃ v L, o = .returned v ∧ Q_r4_473 Z b471 h0 n0 v U'.heap L ∧ FrameEnd U o U' L ({ frames := 2, cells := 0, slots := 0, locals := 24 } : Room).cells ({ frames := 2, cells := 0, slots := 0, locals := 24 } : Room).slots) := by
  refine MetFree.of_bodySF (plainFor_of_name pn1) hisR ?_
  intro p e s m args below meth c s₁ Bd hml0 hP hK
  obtain ⟨rfl, hZ, hh⟩ := hP
  have hx := Bd.exec
  have hby := Bd.bytes
  have hml : c.maxLocals = 1 := hml0
  have hown : s.vm.findClass "java/util/AbstractList" = some m.cls := findClass_of_methodNamed Bd.named
  have hnm := (name_of_methodNamed Bd.named Bd.method).1
  have X0 : Stand p l e ({ frames := 2, cells := 0, slots := 0, locals := 24 } : Room) s m #[(.ref b471)] below meth c s₁ [] 0 0 := Stand.of_body Bd
  have e0 : s₁.heap = h0 := by rw [← hh, Bd.state]; rfl
  have N0 := Fr.nil n0
  refine Goes.out (Goes.by (fun tz kz => castTop (ef4_R m b471) kz) ?_)
  show Goes p e below (s₁.setTop (mkF m 0 #[rv b471] [])) _
  refine Goes.by (fun _ kz => XS.aloadN X0.here hx rfl (hb hby d4_0) rfl rfl kz) ?_
  obtain ⟨_, _, ⟨T479, L479, k479, n479⟩, -, X479, ⟨Lc479, hQ479, l479, y479, z479⟩, st479⟩ := X0.specialBack hx (y := (⟨"java/util/AbstractCollection", "<init>", "()V"⟩ : MethodName)) rfl hown (mvT hZ (hw _ (List.mem_of_getElem? (i := 21) rfl))) (mvT hZ (hw _ (List.mem_of_getElem? (i := 22) rfl))) (mvT hZ (hw _ (List.mem_of_getElem? (i := 26) rfl))) (by decide) (backOf (W := 0) (r5_475 l Z a0 hw [] h0 n0 Z0 b471) hZ (hw _ (List.mem_of_getElem? (i := 26) rfl)) (hw _ (List.mem_of_getElem? (i := 25) rfl)) (by decide) (by decide)) (g := (mkF m 1 #[rv b471] [(.ref b471)])) rfl (by rw [hml]; rfl) (Steps.refl _) (a := b471) (argsL := []) (rest := []) (lenOf pd0 rfl) rfl (by show 2 * 0 + _ ≤ _; exact Nat.le_of_eq rfl) (hb hby d4_1) (fun _ _ => ⟨rfl, e0, (by decide : 0 + 0 ≤ _), (by decide : 0 + 0 ≤ _)⟩)
  dsimp only [Pt.U, Pt.locs, Pt.cells, Pt.slots] at X479 l479 y479 z479 st479 hQ479
  subst l479 y479 z479
  obtain ⟨rfl, Nq479, e479⟩ := hQ479
  have N479 := Fr.app N0 Nq479
  refine Goes.tr st479 ?_
  refine Goes.by (fun _ kz => XS.aloadN X479.here hx rfl (hb hby d4_4) rfl rfl (XS.iconst X479.here hx rfl (hb hby d4_5) kz)) ?_
  obtain ⟨T480, h480, X480, e480, W480, st480⟩ := putF X479 hx hZ hown (host := "") (Or.inl (hw _ (List.mem_of_getElem? (i := 28) rfl))) Via.refl e479 u474_8 u474_7 (Or.inl (hw _ (List.mem_of_getElem? (i := 29) rfl))) (hw _ (List.mem_of_getElem? (i := 10) rfl)) (ty := .int) (by decide) rfl rfl (g := (mkF m 6 #[rv b471] [(.int 0), (.ref b471)])) rfl rfl (hb hby d4_6)
  have Fw480 := Fld.same W480 u474_8
  have K480 : Keep h0 h480 [b471] := Keep.wr (Keep.refl h0 [b471]) W480 (Or.inl (List.mem_of_getElem? (i := 0) rfl))
  have Z480 : n0 ≤ h480.size := Nat.le_trans Z0 (Keep.of_wr W480).1
  have N480 := Fr.snoc X480 N479 g_b471
  refine Goes.by st480 ?_
  show Goes p e below (T480.setTop (mkF m 9 #[rv b471] [])) _
  have f481 := (Fld.other W480 u474_9 (Or.inr (slot_ne (Or.inl (hw _ (List.mem_of_getElem? (i := 32) rfl))) (Or.inl (hw _ (List.mem_of_getElem? (i := 29) rfl))) (by decide) (t := (.array (.object "java/lang/Object"))) (t' := .int) (by decide) (by decide))))
  obtain ⟨fs, hr, hrun, hended, hW, hsame⟩ := X480.leave (v := none) (fun _ => rfl)
  exact ⟨_, _, X480.returnOut hx Bd.returns (hb hby d4_9) hr, hrun, hended, _, _, rfl, (by rw [show (T480.setFrames fs).heap = h480 from e480]; exact ⟨rfl, N480, K480, Fw480, f481⟩), ⟨_, rfl⟩, hW, hsame.mono (by decide) (by decide)⟩
def Q_r3_471 (Z : State) (q1 : Addr) (b471 : Addr) (h0 : Heap) (n0 : Nat) (v : Option Value) (h : Heap) (L : List Loc) : Prop := (v = none ∧ Fr n0 L ∧ Keep h0 h [b471] ∧ Fld Z h b471 "java/util/AbstractList" "modCount" "I" (.int 0) ∧ Fld Z h b471 "java/util/ArrayList" "elementData" "[Ljava/lang/Object;" (.ref q1))
set_option maxRecDepth 65536 in
set_option maxHeartbeats 40000000 in
theorem r3_471 (l : Launch) (Z : State) (a0 : Array Value) (hw : ∀ d ∈ tables_1, d.before a0 Z = true) (ws : List Jvm.Cond) (h0 : Heap) (n0 : Nat) (Z0 : n0 ≤ h0.size) (q1 : Addr) (b471 : Addr) (u472_0 : Sta Z h0 "java/util/ArrayList" "DEFAULTCAPACITY_EMPTY_ELEMENTDATA" "[Ljava/lang/Object;" (.ref q1)) (u472_7 : Exa Z h0 b471 "java/util/ArrayList") (u472_8 : Fld Z h0 b471 "java/util/AbstractList" "modCount" "I" (.int 0)) (u472_9 : Fld Z h0 b471 "java/util/ArrayList" "elementData" "[Ljava/lang/Object;" .null) (g_b471 : n0 ≤ b471) :
    MetFree l (⟨"java/util/ArrayList", "<init>", "()V"⟩ : MethodName) (head1 (Jvm.Cond.code (⟨"java/util/ArrayList", "<init>", "()V"⟩ : MethodName) jdk_38_method_2_code 1 none :: ws) ({ frames := 3, cells := 0, slots := 0, locals := 36 } : Room)) (fun a U => a = #[(.ref b471)] ∧ Z.Warmed39 U.vm ∧ U.heap = h0) (fun _ _ _ _ _ => True) (fun _ U o U' => ∃ v L, o = .returned v ∧ Q_r3_471 Z q1 b471 h0 n0 v U'.heap L ∧ FrameEnd U o U' L ({ frames := 3, cells := 0, slots := 0, locals := 36 } : Room).cells ({ frames := 3, cells := 0, slots := 0, locals := 36 } : Room).slots) := by
  refine MetFree.of_bodySF (plainFor_of_name pn2) hisR ?_
  intro p e s m args below meth c s₁ Bd hml0 hP hK
  obtain ⟨rfl, hZ, hh⟩ := hP
  have hx := Bd.exec
  have hby := Bd.bytes
  have hml : c.maxLocals = 1 := hml0
  have hown : s.vm.findClass "java/util/ArrayList" = some m.cls := findClass_of_methodNamed Bd.named
  have hnm := (name_of_methodNamed Bd.named Bd.method).1
  have X0 : Stand p l e ({ frames := 3, cells := 0, slots := 0, locals := 36 } : Room) s m #[(.ref b471)] below meth c s₁ [] 0 0 := Stand.of_body Bd
  have e0 : s₁.heap = h0 := by rw [← hh, Bd.state]; rfl
  have N0 := Fr.nil n0
  refine Goes.out (Goes.by (fun tz kz => castTop (ef3_R m b471) kz) ?_)
  show Goes p e below (s₁.setTop (mkF m 0 #[rv b471] [])) _
  refine Goes.by (fun _ kz => XS.aloadN X0.here hx rfl (hb hby d3_0) rfl rfl kz) ?_
  obtain ⟨_, _, ⟨T482, L482, k482, n482⟩, -, X482, ⟨Lc482, hQ482, l482, y482, z482⟩, st482⟩ := X0.specialBack hx (y := (⟨"java/util/AbstractList", "<init>", "()V"⟩ : MethodName)) rfl hown (mvT hZ (hw _ (List.mem_of_getElem? (i := 15) rfl))) (mvT hZ (hw _ (List.mem_of_getElem? (i := 16) rfl))) (mvT hZ (hw _ (List.mem_of_getElem? (i := 20) rfl))) (by decide) (backOf (W := 0) (r4_473 l Z a0 hw [] h0 n0 Z0 b471 u472_7 u472_8 u472_9 g_b471) hZ (hw _ (List.mem_of_getElem? (i := 20) rfl)) (hw _ (List.mem_of_getElem? (i := 19) rfl)) (by decide) (by decide)) (g := (mkF m 1 #[rv b471] [(.ref b471)])) rfl (by rw [hml]; rfl) (Steps.refl _) (a := b471) (argsL := []) (rest := []) (lenOf pd0 rfl) rfl (by show 2 * 0 + _ ≤ _; exact Nat.le_of_eq rfl) (hb hby d3_1) (fun _ _ => ⟨rfl, e0, (by decide : 0 + 0 ≤ _), (by decide : 0 + 0 ≤ _)⟩)
  dsimp only [Pt.U, Pt.locs, Pt.cells, Pt.slots] at X482 l482 y482 z482 st482 hQ482
  subst l482 y482 z482
  obtain ⟨rfl, Nq482, Kq482, fq482_0, fq482_1⟩ := hQ482
  have K482 : Keep h0 T482.heap [b471] := Keep.trans (Keep.refl h0 [b471]) Kq482 (allS (Or.inl (List.mem_of_getElem? (i := 0) rfl)) all0)
  have Z482 : n0 ≤ T482.heap.size := Nat.le_trans Z0 Kq482.1
  have N482 := Fr.app N0 Nq482
  refine Goes.tr st482 ?_
  refine Goes.by (fun _ kz => XS.aloadN X482.here hx rfl (hb hby d3_4) rfl rfl kz) ?_
  have f483 := (own_staKeep u472_0 Kq482 (allS (own_nsE u472_7) all0))
  obtain ⟨T484, X484, e484, st484⟩ := getS2 X482 hx hZ hown (host := "") (Or.inl (hw _ (List.mem_of_getElem? (i := 30) rfl))) Via.refl rfl f483 (g := (mkF m 5 #[rv b471] [(.ref b471)])) rfl (hb hby d3_5)
  refine Goes.by st484 ?_
  have f485 := (u472_7.keep Kq482)
  obtain ⟨T486, h486, X486, e486, W486, st486⟩ := putF X484 hx hZ hown (host := "") (Or.inl (hw _ (List.mem_of_getElem? (i := 31) rfl))) Via.refl e484 fq482_1 f485 (Or.inl (hw _ (List.mem_of_getElem? (i := 32) rfl))) (hw _ (List.mem_of_getElem? (i := 10) rfl)) (ty := (.array (.object "java/lang/Object"))) (by decide) rfl rfl (g := (mkF m 8 #[rv b471] [(.ref q1), (.ref b471)])) rfl rfl (hb hby d3_8)
  have Fw486 := Fld.same W486 fq482_1
  have K486 : Keep h0 h486 [b471] := Keep.wr K482 W486 (Or.inl (List.mem_of_getElem? (i := 0) rfl))
  have Z486 : n0 ≤ h486.size := Nat.le_trans Z482 (Keep.of_wr W486).1
  have N486 := Fr.snoc X486 N482 g_b471
  refine Goes.by st486 ?_
  show Goes p e below (T486.setTop (mkF m 11 #[rv b471] [])) _
  have f487 := (Fld.other W486 fq482_0 (Or.inr (slot_ne (Or.inl (hw _ (List.mem_of_getElem? (i := 29) rfl))) (Or.inl (hw _ (List.mem_of_getElem? (i := 32) rfl))) (by decide) (t := .int) (t' := (.array (.object "java/lang/Object"))) (by decide) (by decide))))
  obtain ⟨fs, hr, hrun, hended, hW, hsame⟩ := X486.leave (v := none) (fun _ => rfl)
  exact ⟨_, _, X486.returnOut hx Bd.returns (hb hby d3_11) hr, hrun, hended, _, _, rfl, (by rw [show (T486.setFrames fs).heap = h486 from e486]; exact ⟨rfl, N486, K486, f487, Fw486⟩), ⟨_, rfl⟩, hW, hsame.mono (by decide) (by decide)⟩
def Q_r9_507 (Z : State) (b471 : Addr) (b503 : Addr) (h0 : Heap) (n0 : Nat) (v : Option Value) (h : Heap) (L : List Loc) : Prop := (v = none ∧ Fr n0 L ∧ Keep h0 h [b503] ∧ Fld Z h b503 "java/util/Collections$UnmodifiableCollection" "c" "Ljava/util/Collection;" (.ref b471) ∧ Fld Z h b503 "java/util/Collections$UnmodifiableList" "list" "Ljava/util/List;" .null)
set_option maxRecDepth 65536 in
set_option maxHeartbeats 40000000 in
theorem r9_507 (l : Launch) (Z : State) (a0 : Array Value) (hw : ∀ d ∈ tables_1, d.before a0 Z = true) (ws : List Jvm.Cond) (h0 : Heap) (n0 : Nat) (Z0 : n0 ≤ h0.size) (b471 : Addr) (b503 : Addr) (u508_10 : Exa Z h0 b503 "java/util/Collections$UnmodifiableRandomAccessList") (u508_11 : Fld Z h0 b503 "java/util/Collections$UnmodifiableCollection" "c" "Ljava/util/Collection;" .null) (u508_12 : Fld Z h0 b503 "java/util/Collections$UnmodifiableList" "list" "Ljava/util/List;" .null) (g_b503 : n0 ≤ b503) :
    MetFree l (⟨"java/util/Collections$UnmodifiableCollection", "<init>", "(Ljava/util/Collection;)V"⟩ : MethodName) (head1 (Jvm.Cond.code (⟨"java/util/Collections$UnmodifiableCollection", "<init>", "(Ljava/util/Collection;)V"⟩ : MethodName) jdk_119_method_1_code 2 none :: ws) ({ frames := 1, cells := 0, slots := 0, locals := 12 } : Room)) (fun a U => a = #[(.ref b503), (.ref b471)] ∧ Z.Warmed39 U.vm ∧ U.heap = h0) (fun _ _ _ _ _ => True) (fun _ U o U' => ∃ v L, o = .returned v ∧ Q_r9_507 Z b471 b503 h0 n0 v U'.heap L ∧ FrameEnd U o U' L ({ frames := 1, cells := 0, slots := 0, locals := 12 } : Room).cells ({ frames := 1, cells := 0, slots := 0, locals := 12 } : Room).slots) := by
  refine MetFree.of_bodySF (plainFor_of_name pn3) hisR ?_
  intro p e s m args below meth c s₁ Bd hml0 hP hK
  obtain ⟨rfl, hZ, hh⟩ := hP
  have hx := Bd.exec
  have hby := Bd.bytes
  have hml : c.maxLocals = 2 := hml0
  have hown : s.vm.findClass "java/util/Collections$UnmodifiableCollection" = some m.cls := findClass_of_methodNamed Bd.named
  have hnm := (name_of_methodNamed Bd.named Bd.method).1
  have X0 : Stand p l e ({ frames := 1, cells := 0, slots := 0, locals := 12 } : Room) s m #[(.ref b503), (.ref b471)] below meth c s₁ [] 0 0 := Stand.of_body Bd
  have e0 : s₁.heap = h0 := by rw [← hh, Bd.state]; rfl
  have N0 := Fr.nil n0
  refine Goes.out (Goes.by (fun tz kz => castTop (ef9_RR m b503 b471) kz) ?_)
  show Goes p e below (s₁.setTop (mkF m 0 #[rv b503, rv b471] [])) _
  refine Goes.by (fun _ kz => XS.aloadN X0.here hx rfl (hb hby d9_0) rfl rfl kz) ?_
  obtain ⟨T510, X510, e510, st510⟩ := initO X0 hx hZ hown (hw _ (List.mem_of_getElem? (i := 73) rfl)) (hw _ (List.mem_of_getElem? (i := 7) rfl)) (hw _ (List.mem_of_getElem? (i := 8) rfl)) e0 (g := (mkF m 1 #[rv b503, rv b471] [(.ref b503)])) rfl (by rw [hml]; rfl) rfl (hb hby d9_1) (by decide) (W := 0) (by show 2 * 0 + _ ≤ _; exact Nat.le_of_eq rfl) (by decide)
  refine Goes.by st510 ?_
  refine Goes.by (fun _ kz => XS.aloadN X510.here hx rfl (hb hby d9_4) rfl rfl (XS.ifnonnullYes X510.here hx rfl (pc0 := 5) (pc' := 16) rfl (hb hby d9_5) rfl (by decide) (by decide) (XS.aloadN X510.here hx rfl (hb hby d9_16) rfl rfl kz))) ?_
  show Goes p e below (T510.setTop (mkF m 17 #[rv b503, rv b471] [(.ref b503)])) _
  refine Goes.by (fun _ kz => XS.aloadN X510.here hx rfl (hb hby d9_17) rfl rfl kz) ?_
  obtain ⟨T511, h511, X511, e511, W511, st511⟩ := putF X510 hx hZ hown (host := "") (Or.inl (hw _ (List.mem_of_getElem? (i := 74) rfl))) Via.refl e510 u508_11 u508_10 (Or.inr ⟨(hw _ (List.mem_of_getElem? (i := 75) rfl)), rfl, hnm⟩) (hw _ (List.mem_of_getElem? (i := 56) rfl)) (ty := (.object "java/util/Collection")) (by decide) rfl rfl (g := (mkF m 18 #[rv b503, rv b471] [(.ref b471), (.ref b503)])) rfl rfl (hb hby d9_18)
  have Fw511 := Fld.same W511 u508_11
  have K511 : Keep h0 h511 [b503] := Keep.wr (Keep.refl h0 [b503]) W511 (Or.inl (List.mem_of_getElem? (i := 0) rfl))
  have Z511 : n0 ≤ h511.size := Nat.le_trans Z0 (Keep.of_wr W511).1
  have N511 := Fr.snoc X511 N0 g_b503
  refine Goes.by st511 ?_
  show Goes p e below (T511.setTop (mkF m 21 #[rv b503, rv b471] [])) _
  have f512 := (Fld.other W511 u508_12 (Or.inr (slot_ne (Or.inr (hw _ (List.mem_of_getElem? (i := 77) rfl))) (Or.inr (hw _ (List.mem_of_getElem? (i := 75) rfl))) (by decide) (t := (.object "java/util/List")) (t' := (.object "java/util/Collection")) (by decide) (by decide))))
  obtain ⟨fs, hr, hrun, hended, hW, hsame⟩ := X511.leave (v := none) (fun _ => rfl)
  exact ⟨_, _, X511.returnOut hx Bd.returns (hb hby d9_21) hr, hrun, hended, _, _, rfl, (by rw [show (T511.setFrames fs).heap = h511 from e511]; exact ⟨rfl, N511, K511, Fw511, f512⟩), ⟨_, rfl⟩, hW, hsame.mono (by decide) (by decide)⟩
def Q_r8_505 (Z : State) (b471 : Addr) (b503 : Addr) (h0 : Heap) (n0 : Nat) (v : Option Value) (h : Heap) (L : List Loc) : Prop := (v = none ∧ Fr n0 L ∧ Keep h0 h [b503] ∧ Fld Z h b503 "java/util/Collections$UnmodifiableCollection" "c" "Ljava/util/Collection;" (.ref b471) ∧ Fld Z h b503 "java/util/Collections$UnmodifiableList" "list" "Ljava/util/List;" (.ref b471))
set_option maxRecDepth 65536 in
set_option maxHeartbeats 40000000 in
theorem r8_505 (l : Launch) (Z : State) (a0 : Array Value) (hw : ∀ d ∈ tables_1, d.before a0 Z = true) (ws : List Jvm.Cond) (h0 : Heap) (n0 : Nat) (Z0 : n0 ≤ h0.size) (b471 : Addr) (b503 : Addr) (u506_10 : Exa Z h0 b503 "java/util/Collections$UnmodifiableRandomAccessList") (u506_11 : Fld Z h0 b503 "java/util/Collections$UnmodifiableCollection" "c" "Ljava/util/Collection;" .null) (u506_12 : Fld Z h0 b503 "java/util/Collections$UnmodifiableList" "list" "Ljava/util/List;" .null) (g_b503 : n0 ≤ b503) :
    MetFree l (⟨"java/util/Collections$UnmodifiableList", "<init>", "(Ljava/util/List;)V"⟩ : MethodName) (head1 (Jvm.Cond.code (⟨"java/util/Collections$UnmodifiableList", "<init>", "(Ljava/util/List;)V"⟩ : MethodName) jdk_120_method_1_code 2 none :: ws) ({ frames := 2, cells := 0, slots := 0, locals := 25 } : Room)) (fun a U => a = #[(.ref b503), (.ref b471)] ∧ Z.Warmed39 U.vm ∧ U.heap = h0) (fun _ _ _ _ _ => True) (fun _ U o U' => ∃ v L, o = .returned v ∧ Q_r8_505 Z b471 b503 h0 n0 v U'.heap L ∧ FrameEnd U o U' L ({ frames := 2, cells := 0, slots := 0, locals := 25 } : Room).cells ({ frames := 2, cells := 0, slots := 0, locals := 25 } : Room).slots) := by
  refine MetFree.of_bodySF (plainFor_of_name pn4) hisR ?_
  intro p e s m args below meth c s₁ Bd hml0 hP hK
  obtain ⟨rfl, hZ, hh⟩ := hP
  have hx := Bd.exec
  have hby := Bd.bytes
  have hml : c.maxLocals = 2 := hml0
  have hown : s.vm.findClass "java/util/Collections$UnmodifiableList" = some m.cls := findClass_of_methodNamed Bd.named
  have hnm := (name_of_methodNamed Bd.named Bd.method).1
  have X0 : Stand p l e ({ frames := 2, cells := 0, slots := 0, locals := 25 } : Room) s m #[(.ref b503), (.ref b471)] below meth c s₁ [] 0 0 := Stand.of_body Bd
  have e0 : s₁.heap = h0 := by rw [← hh, Bd.state]; rfl
  have N0 := Fr.nil n0
  refine Goes.out (Goes.by (fun tz kz => castTop (ef8_RR m b503 b471) kz) ?_)
  show Goes p e below (s₁.setTop (mkF m 0 #[rv b503, rv b471] [])) _
  refine Goes.by (fun _ kz => XS.aloadN X0.here hx rfl (hb hby d8_0) rfl rfl (XS.aloadN X0.here hx rfl (hb hby d8_1) rfl rfl kz)) ?_
  obtain ⟨_, _, ⟨T513, L513, k513, n513⟩, -, X513, ⟨Lc513, hQ513, l513, y513, z513⟩, st513⟩ := X0.specialBack hx (y := (⟨"java/util/Collections$UnmodifiableCollection", "<init>", "(Ljava/util/Collection;)V"⟩ : MethodName)) rfl hown (mvT hZ (hw _ (List.mem_of_getElem? (i := 67) rfl))) (mvT hZ (hw _ (List.mem_of_getElem? (i := 68) rfl))) (mvT hZ (hw _ (List.mem_of_getElem? (i := 72) rfl))) (by decide) (backOf (W := 0) (r9_507 l Z a0 hw [] h0 n0 Z0 b471 b503 u506_10 u506_11 u506_12 g_b503) hZ (hw _ (List.mem_of_getElem? (i := 72) rfl)) (hw _ (List.mem_of_getElem? (i := 71) rfl)) (by decide) (by decide)) (g := (mkF m 2 #[rv b503, rv b471] [(.ref b471), (.ref b503)])) rfl (by rw [hml]; rfl) (Steps.refl _) (a := b503) (argsL := [(.ref b471)]) (rest := []) (lenOf pd1 rfl) rfl (by show 2 * 0 + _ ≤ _; exact Nat.le_of_eq rfl) (hb hby d8_2) (fun _ _ => ⟨rfl, e0, (by decide : 0 + 0 ≤ _), (by decide : 0 + 0 ≤ _)⟩)
  dsimp only [Pt.U, Pt.locs, Pt.cells, Pt.slots] at X513 l513 y513 z513 st513 hQ513
  subst l513 y513 z513
  obtain ⟨rfl, Nq513, Kq513, fq513_0, fq513_1⟩ := hQ513
  have K513 : Keep h0 T513.heap [b503] := Keep.trans (Keep.refl h0 [b503]) Kq513 (allS (Or.inl (List.mem_of_getElem? (i := 0) rfl)) all0)
  have Z513 : n0 ≤ T513.heap.size := Nat.le_trans Z0 Kq513.1
  have N513 := Fr.app N0 Nq513
  refine Goes.tr st513 ?_
  refine Goes.by (fun _ kz => XS.aloadN X513.here hx rfl (hb hby d8_5) rfl rfl (XS.aloadN X513.here hx rfl (hb hby d8_6) rfl rfl kz)) ?_
  have f514 := (u506_10.keep Kq513)
  obtain ⟨T515, h515, X515, e515, W515, st515⟩ := putF X513 hx hZ hown (host := "") (Or.inl (hw _ (List.mem_of_getElem? (i := 76) rfl))) Via.refl rfl fq513_1 f514 (Or.inr ⟨(hw _ (List.mem_of_getElem? (i := 77) rfl)), rfl, hnm⟩) (hw _ (List.mem_of_getElem? (i := 56) rfl)) (ty := (.object "java/util/List")) (by decide) rfl rfl (g := (mkF m 7 #[rv b503, rv b471] [(.ref b471), (.ref b503)])) rfl rfl (hb hby d8_7)
  have Fw515 := Fld.same W515 fq513_1
  have K515 : Keep h0 h515 [b503] := Keep.wr K513 W515 (Or.inl (List.mem_of_getElem? (i := 0) rfl))
  have Z515 : n0 ≤ h515.size := Nat.le_trans Z513 (Keep.of_wr W515).1
  have N515 := Fr.snoc X515 N513 g_b503
  refine Goes.by st515 ?_
  show Goes p e below (T515.setTop (mkF m 10 #[rv b503, rv b471] [])) _
  have f516 := (Fld.other W515 fq513_0 (Or.inr (slot_ne (Or.inr (hw _ (List.mem_of_getElem? (i := 75) rfl))) (Or.inr (hw _ (List.mem_of_getElem? (i := 77) rfl))) (by decide) (t := (.object "java/util/Collection")) (t' := (.object "java/util/List")) (by decide) (by decide))))
  obtain ⟨fs, hr, hrun, hended, hW, hsame⟩ := X515.leave (v := none) (fun _ => rfl)
  exact ⟨_, _, X515.returnOut hx Bd.returns (hb hby d8_10) hr, hrun, hended, _, _, rfl, (by rw [show (T515.setFrames fs).heap = h515 from e515]; exact ⟨rfl, N515, K515, f516, Fw515⟩), ⟨_, rfl⟩, hW, hsame.mono (by decide) (by decide)⟩
def Q_r7_503 (Z : State) (b471 : Addr) (b503 : Addr) (h0 : Heap) (n0 : Nat) (v : Option Value) (h : Heap) (L : List Loc) : Prop := (v = none ∧ Fr n0 L ∧ Keep h0 h [b503] ∧ Fld Z h b503 "java/util/Collections$UnmodifiableCollection" "c" "Ljava/util/Collection;" (.ref b471) ∧ Fld Z h b503 "java/util/Collections$UnmodifiableList" "list" "Ljava/util/List;" (.ref b471))
set_option maxRecDepth 65536 in
set_option maxHeartbeats 40000000 in
theorem r7_503 (l : Launch) (Z : State) (a0 : Array Value) (hw : ∀ d ∈ tables_1, d.before a0 Z = true) (ws : List Jvm.Cond) (h0 : Heap) (n0 : Nat) (Z0 : n0 ≤ h0.size) (b471 : Addr) (b503 : Addr) (u504_10 : Exa Z h0 b503 "java/util/Collections$UnmodifiableRandomAccessList") (u504_11 : Fld Z h0 b503 "java/util/Collections$UnmodifiableCollection" "c" "Ljava/util/Collection;" .null) (u504_12 : Fld Z h0 b503 "java/util/Collections$UnmodifiableList" "list" "Ljava/util/List;" .null) (g_b503 : n0 ≤ b503) :
    MetFree l (⟨"java/util/Collections$UnmodifiableRandomAccessList", "<init>", "(Ljava/util/List;)V"⟩ : MethodName) (head1 (Jvm.Cond.code (⟨"java/util/Collections$UnmodifiableRandomAccessList", "<init>", "(Ljava/util/List;)V"⟩ : MethodName) jdk_121_method_1_code 2 none :: ws) ({ frames := 3, cells := 0, slots := 0, locals := 38 } : Room)) (fun a U => a = #[(.ref b503), (.ref b471)] ∧ Z.Warmed39 U.vm ∧ U.heap = h0) (fun _ _ _ _ _ => True) (fun _ U o U' => ∃ v L, o = .returned v ∧ Q_r7_503 Z b471 b503 h0 n0 v U'.heap L ∧ FrameEnd U o U' L ({ frames := 3, cells := 0, slots := 0, locals := 38 } : Room).cells ({ frames := 3, cells := 0, slots := 0, locals := 38 } : Room).slots) := by
  refine MetFree.of_bodySF (plainFor_of_name pn5) hisR ?_
  intro p e s m args below meth c s₁ Bd hml0 hP hK
  obtain ⟨rfl, hZ, hh⟩ := hP
  have hx := Bd.exec
  have hby := Bd.bytes
  have hml : c.maxLocals = 2 := hml0
  have hown : s.vm.findClass "java/util/Collections$UnmodifiableRandomAccessList" = some m.cls := findClass_of_methodNamed Bd.named
  have hnm := (name_of_methodNamed Bd.named Bd.method).1
  have X0 : Stand p l e ({ frames := 3, cells := 0, slots := 0, locals := 38 } : Room) s m #[(.ref b503), (.ref b471)] below meth c s₁ [] 0 0 := Stand.of_body Bd
  have e0 : s₁.heap = h0 := by rw [← hh, Bd.state]; rfl
  have N0 := Fr.nil n0
  refine Goes.out (Goes.by (fun tz kz => castTop (ef7_RR m b503 b471) kz) ?_)
  show Goes p e below (s₁.setTop (mkF m 0 #[rv b503, rv b471] [])) _
  refine Goes.by (fun _ kz => XS.aloadN X0.here hx rfl (hb hby d7_0) rfl rfl (XS.aloadN X0.here hx rfl (hb hby d7_1) rfl rfl kz)) ?_
  obtain ⟨_, _, ⟨T517, L517, k517, n517⟩, -, X517, ⟨Lc517, hQ517, l517, y517, z517⟩, st517⟩ := X0.specialBack hx (y := (⟨"java/util/Collections$UnmodifiableList", "<init>", "(Ljava/util/List;)V"⟩ : MethodName)) rfl hown (mvT hZ (hw _ (List.mem_of_getElem? (i := 61) rfl))) (mvT hZ (hw _ (List.mem_of_getElem? (i := 62) rfl))) (mvT hZ (hw _ (List.mem_of_getElem? (i := 66) rfl))) (by decide) (backOf (W := 0) (r8_505 l Z a0 hw [] h0 n0 Z0 b471 b503 u504_10 u504_11 u504_12 g_b503) hZ (hw _ (List.mem_of_getElem? (i := 66) rfl)) (hw _ (List.mem_of_getElem? (i := 65) rfl)) (by decide) (by decide)) (g := (mkF m 2 #[rv b503, rv b471] [(.ref b471), (.ref b503)])) rfl (by rw [hml]; rfl) (Steps.refl _) (a := b503) (argsL := [(.ref b471)]) (rest := []) (lenOf pd2 rfl) rfl (by show 2 * 0 + _ ≤ _; exact Nat.le_of_eq rfl) (hb hby d7_2) (fun _ _ => ⟨rfl, e0, (by decide : 0 + 0 ≤ _), (by decide : 0 + 0 ≤ _)⟩)
  dsimp only [Pt.U, Pt.locs, Pt.cells, Pt.slots] at X517 l517 y517 z517 st517 hQ517
  subst l517 y517 z517
  obtain ⟨rfl, Nq517, Kq517, fq517_0, fq517_1⟩ := hQ517
  have K517 : Keep h0 T517.heap [b503] := Keep.trans (Keep.refl h0 [b503]) Kq517 (allS (Or.inl (List.mem_of_getElem? (i := 0) rfl)) all0)
  have Z517 : n0 ≤ T517.heap.size := Nat.le_trans Z0 Kq517.1
  have N517 := Fr.app N0 Nq517
  refine Goes.tr st517 ?_
  show Goes p e below (T517.setTop (mkF m 5 #[rv b503, rv b471] [])) _
  obtain ⟨fs, hr, hrun, hended, hW, hsame⟩ := X517.leave (v := none) (fun _ => rfl)
  exact ⟨_, _, X517.returnOut hx Bd.returns (hb hby d7_5) hr, hrun, hended, _, _, rfl, ⟨rfl, N517, K517, fq517_0, fq517_1⟩, ⟨_, rfl⟩, hW, hsame.mono (by decide) (by decide)⟩
def Q_r6_493 (Z : State) (mA : Addr) (mL : Addr) (mR : Addr) (b467 : Addr) (b471 : Addr) (h0 : Heap) (n0 : Nat) (v : Option Value) (h : Heap) (L : List Loc) : Prop := (v = some (.ref b471) ∧ Fr n0 L ∧ h = h0 ∧ mA = mL) ∨ (v = some (.ref b471) ∧ Fr n0 L ∧ h = h0 ∧ ¬ (mA = mL) ∧ mA = mR) ∨ (∃ (b503 : Addr), v = some (.ref b503) ∧ Fr n0 L ∧ Keep h0 h [] ∧ h0.size ≤ b503 ∧ Exa Z h b503 "java/util/Collections$UnmodifiableRandomAccessList" ∧ Fld Z h b503 "java/util/Collections$UnmodifiableCollection" "c" "Ljava/util/Collection;" (.ref b471) ∧ Fld Z h b503 "java/util/Collections$UnmodifiableList" "list" "Ljava/util/List;" (.ref b471) ∧ ¬ (mA = mL) ∧ ¬ (mA = mR))
set_option maxRecDepth 65536 in
set_option maxHeartbeats 40000000 in
theorem r6_493 (l : Launch) (Z : State) (a0 : Array Value) (hw : ∀ d ∈ tables_1, d.before a0 Z = true) (ws : List Jvm.Cond) (h0 : Heap) (n0 : Nat) (Z0 : n0 ≤ h0.size) (mA : Addr) (mL : Addr) (mR : Addr) (b467 : Addr) (b471 : Addr) (u494_2 : Exa Z h0 b467 "com/example/entail/entail/model/EntrySettings") (u494_7 : Exa Z h0 b471 "java/util/ArrayList") (MA : OwnMir Z "java/util/ArrayList" mA) (ML : OwnMir Z "java/util/Collections$UnmodifiableList" mL) (MR : OwnMir Z "java/util/Collections$UnmodifiableRandomAccessList" mR) :
    MetFree l (⟨"java/util/Collections", "unmodifiableList", "(Ljava/util/List;)Ljava/util/List;"⟩ : MethodName) (head1 (Jvm.Cond.code (⟨"java/util/Collections", "unmodifiableList", "(Ljava/util/List;)Ljava/util/List;"⟩ : MethodName) jdk_79_method_35_code 1 (some (.object "java/util/List")) :: ws) ({ frames := 4, cells := 1, slots := 2, locals := 64 } : Room)) (fun a U => a = #[(.ref b471)] ∧ Z.Warmed39 U.vm ∧ U.heap = h0) (fun _ _ _ _ _ => True) (fun _ U o U' => ∃ v L, o = .returned v ∧ Q_r6_493 Z mA mL mR b467 b471 h0 n0 v U'.heap L ∧ FrameEnd U o U' L ({ frames := 4, cells := 1, slots := 2, locals := 64 } : Room).cells ({ frames := 4, cells := 1, slots := 2, locals := 64 } : Room).slots) := by
  refine MetFree.of_bodySF (plainFor_of_name pn6) hisR ?_
  intro p e s m args below meth c s₁ Bd hml0 hP hK
  obtain ⟨rfl, hZ, hh⟩ := hP
  have hx := Bd.exec
  have hby := Bd.bytes
  have hml : c.maxLocals = 1 := hml0
  have hown : s.vm.findClass "java/util/Collections" = some m.cls := findClass_of_methodNamed Bd.named
  have hnm := (name_of_methodNamed Bd.named Bd.method).1
  have X0 : Stand p l e ({ frames := 4, cells := 1, slots := 2, locals := 64 } : Room) s m #[(.ref b471)] below meth c s₁ [] 0 0 := Stand.of_body Bd
  have e0 : s₁.heap = h0 := by rw [← hh, Bd.state]; rfl
  have N0 := Fr.nil n0
  refine Goes.out (Goes.by (fun tz kz => castTop (ef6_R m b471) kz) ?_)
  show Goes p e below (s₁.setTop (mkF m 0 #[rv b471] [])) _
  refine Goes.by (fun _ kz => XS.aloadN X0.here hx rfl (hb hby d6_0) rfl rfl kz) ?_
  obtain ⟨cB496, kB496, qa496, qb496, qc496, qd496⟩ := own_mirOf hZ e0 u494_7 MA
  obtain ⟨vm496, X496, st496⟩ := X0.getClassOfI hx (xi := (⟨"java/util/List", "getClass", "()Ljava/lang/Class;"⟩ : MethodName)) hown (mvT hZ (hw _ (List.mem_of_getElem? (i := 39) rfl))) (mvT hZ (hw _ (List.mem_of_getElem? (i := 40) rfl))) (Jvm.Free.ULB.iface_rides hZ.alike (hw _ (List.mem_of_getElem? (i := 41) rfl))) (mvT hZ (hw _ (List.mem_of_getElem? (i := 42) rfl))) (mvT hZ (hw _ (List.mem_of_getElem? (i := 43) rfl))) (mvT hZ (hw _ (List.mem_of_getElem? (i := 44) rfl))) (mvT hZ (hw _ (List.mem_of_getElem? (i := 45) rfl))) (mvT hZ (hw _ (List.mem_of_getElem? (i := 46) rfl))) (mvT hZ (hw _ (List.mem_of_getElem? (i := 47) rfl))) (by decide) (by decide) rfl rfl qa496 qb496 qc496 qd496 (g := (mkF m 1 #[rv b471] [(.ref b471)])) rfl (by rw [hml]; rfl) rfl (hb hby d6_1) (by decide) (by show 2 * 0 + 0 + (nativeFrameWords "java/lang/Object" "getClass" 1 + 11) ≤ _; decide)
  have e496 : (s₁.setVm vm496).heap = h0 := e0
  refine Goes.by st496 ?_
  obtain ⟨vm497, X497, st497⟩ := X496.ldcMirror hx hown (mvT hZ (hw _ (List.mem_of_getElem? (i := 49) rfl))) (own_mir hZ ML) (g := (mkF m 6 #[rv b471] [(.ref mA)])) rfl (hb hby d6_6)
  have e497 : ((s₁.setVm vm496).setVm vm497).heap = h0 := e496
  refine Goes.by st497 ?_
  show Goes p e below (((s₁.setVm vm496).setVm vm497).setTop (mkF m 8 #[rv b471] [(.ref mL), (.ref mA)])) _
  by_cases hc498 : mA = mL
  · refine Goes.by (fun _ kz => Jvm.RoadKit.acmp (g := (mkF m 8 #[rv b471] [(.ref mL), (.ref mA)])) X497 hx rfl rfl rfl (pc0 := 8) (pc' := 22) (same := true) rfl (hb hby d6_8) rfl (decide_eq_true (congrArg Value.ref hc498)) (by decide) (by decide) (XS.aloadN X497.here hx rfl (hb hby d6_22) rfl rfl kz)) ?_
    show Goes p e below (((s₁.setVm vm496).setVm vm497).setTop (mkF m 23 #[rv b471] [(.ref b471)])) _
    obtain ⟨fs, hr, hrun, hended, hW, hsame⟩ := X497.leave (v := some (.ref b471)) (fun h => by rw [Bd.returns] at h; cases h)
    exact ⟨_, _, retOut X497 hx (t := (.object "java/util/List")) Bd.returns rfl (Or.inr (Or.inr (Or.inr (Or.inr ⟨rfl, rfl, rfl⟩)))) (hb hby d6_23) hr, hrun, hended, _, _, rfl, (Or.inl ⟨rfl, N0, e497, hc498⟩), ⟨_, rfl⟩, hW, hsame.mono (by decide) (by decide)⟩
  · refine Goes.by (fun _ kz => Jvm.RoadKit.acmp (g := (mkF m 8 #[rv b471] [(.ref mL), (.ref mA)])) X497 hx rfl rfl rfl (pc0 := 8) (pc' := 11) (same := false) rfl (hb hby d6_8) rfl (decide_eq_false fun q => hc498 (Value.ref.inj q)) (by decide) (by decide) (XS.aloadN X497.here hx rfl (hb hby d6_11) rfl rfl kz)) ?_
    obtain ⟨cB499, kB499, qa499, qb499, qc499, qd499⟩ := own_mirOf hZ e497 u494_7 MA
    obtain ⟨vm499, X499, st499⟩ := X497.getClassOfI hx (xi := (⟨"java/util/List", "getClass", "()Ljava/lang/Class;"⟩ : MethodName)) hown (mvT hZ (hw _ (List.mem_of_getElem? (i := 51) rfl))) (mvT hZ (hw _ (List.mem_of_getElem? (i := 40) rfl))) (Jvm.Free.ULB.iface_rides hZ.alike (hw _ (List.mem_of_getElem? (i := 41) rfl))) (mvT hZ (hw _ (List.mem_of_getElem? (i := 42) rfl))) (mvT hZ (hw _ (List.mem_of_getElem? (i := 43) rfl))) (mvT hZ (hw _ (List.mem_of_getElem? (i := 44) rfl))) (mvT hZ (hw _ (List.mem_of_getElem? (i := 45) rfl))) (mvT hZ (hw _ (List.mem_of_getElem? (i := 46) rfl))) (mvT hZ (hw _ (List.mem_of_getElem? (i := 47) rfl))) (by decide) (by decide) rfl rfl qa499 qb499 qc499 qd499 (g := (mkF m 12 #[rv b471] [(.ref b471)])) rfl (by rw [hml]; rfl) rfl (hb hby d6_12) (by decide) (by show 2 * 0 + 0 + (nativeFrameWords "java/lang/Object" "getClass" 1 + 11) ≤ _; decide)
    have e499 : (((s₁.setVm vm496).setVm vm497).setVm vm499).heap = h0 := e497
    refine Goes.by st499 ?_
    obtain ⟨vm500, X500, st500⟩ := X499.ldcMirror hx hown (mvT hZ (hw _ (List.mem_of_getElem? (i := 52) rfl))) (own_mir hZ MR) (g := (mkF m 17 #[rv b471] [(.ref mA)])) rfl (hb hby d6_17)
    have e500 : ((((s₁.setVm vm496).setVm vm497).setVm vm499).setVm vm500).heap = h0 := e499
    refine Goes.by st500 ?_
    show Goes p e below (((((s₁.setVm vm496).setVm vm497).setVm vm499).setVm vm500).setTop (mkF m 19 #[rv b471] [(.ref mR), (.ref mA)])) _
    by_cases hc501 : mA = mR
    · refine Goes.by (fun _ kz => Jvm.RoadKit.acmp (g := (mkF m 19 #[rv b471] [(.ref mR), (.ref mA)])) X500 hx rfl rfl rfl (pc0 := 19) (pc' := 22) (same := true) rfl (hb hby d6_19) rfl (decide_eq_true (congrArg Value.ref hc501)) (by decide) (by decide) (XS.aloadN X500.here hx rfl (hb hby d6_22) rfl rfl kz)) ?_
      show Goes p e below (((((s₁.setVm vm496).setVm vm497).setVm vm499).setVm vm500).setTop (mkF m 23 #[rv b471] [(.ref b471)])) _
      obtain ⟨fs, hr, hrun, hended, hW, hsame⟩ := X500.leave (v := some (.ref b471)) (fun h => by rw [Bd.returns] at h; cases h)
      exact ⟨_, _, retOut X500 hx (t := (.object "java/util/List")) Bd.returns rfl (Or.inr (Or.inr (Or.inr (Or.inr ⟨rfl, rfl, rfl⟩)))) (hb hby d6_23) hr, hrun, hended, _, _, rfl, (Or.inr (Or.inl ⟨rfl, N0, e500, hc498, hc501⟩)), ⟨_, rfl⟩, hW, hsame.mono (by decide) (by decide)⟩
    · refine Goes.by (fun _ kz => Jvm.RoadKit.acmp (g := (mkF m 19 #[rv b471] [(.ref mR), (.ref mA)])) X500 hx rfl rfl rfl (pc0 := 19) (pc' := 24) (same := false) rfl (hb hby d6_19) rfl (decide_eq_false fun q => hc501 (Value.ref.inj q)) (by decide) (by decide) (XS.aloadN X500.here hx rfl (hb hby d6_24) rfl rfl kz)) ?_
      obtain ⟨T502, X502, e502, st502⟩ := instY X500 hx hZ hown (hw _ (List.mem_of_getElem? (i := 54) rfl)) e500 (Ins.of_exa u494_7 (hw _ (List.mem_of_getElem? (i := 55) rfl))) (g := (mkF m 25 #[rv b471] [(.ref b471)])) rfl rfl (hb hby d6_25)
      refine Goes.by st502 ?_
      refine Goes.by (fun _ kz => XS.ifNo X502.here hx rfl (hb hby d6_28) rfl ((if0 _ _).trans (feq (by decide : ¬ ((1 : Int32) = (0 : Int32)))).1) kz) ?_
      obtain ⟨T503, h503, X503, e503, E503, A503, D503, -, st503⟩ := newO X502 hx hZ hown (hw _ (List.mem_of_getElem? (i := 52) rfl)) (hw _ (List.mem_of_getElem? (i := 56) rfl)) (hw _ (List.mem_of_getElem? (i := 57) rfl)) e502 (g := (mkF m 31 #[rv b471] [])) rfl (hb hby d6_31) (by decide) (by decide)
      obtain ⟨b503, g503⟩ : ∃ z, z = h0.size := ⟨_, rfl⟩
      rw [← g503] at A503 D503 st503
      have ne503_b467 : b467 ≠ b503 := Nat.ne_of_lt (Nat.lt_of_lt_of_le u494_2.lt (Nat.le_of_eq g503.symm))
      have ne503_b471 : b471 ≠ b503 := Nat.ne_of_lt (Nat.lt_of_lt_of_le u494_7.lt (Nat.le_of_eq g503.symm))
      have g_b503 : n0 ≤ b503 := Nat.le_trans Z0 (Nat.le_of_eq g503.symm)
      have sz_b503 : h0.size ≤ b503 := Nat.le_of_eq g503.symm
      have F503_c : Fld Z h503 b503 "java/util/Collections$UnmodifiableCollection" "c" "Ljava/util/Collection;" .null := D503 (Or.inr (hw _ (List.mem_of_getElem? (i := 75) rfl))) (ty := (.object "java/util/Collection")) (by decide)
      have F503_list : Fld Z h503 b503 "java/util/Collections$UnmodifiableList" "list" "Ljava/util/List;" .null := D503 (Or.inr (hw _ (List.mem_of_getElem? (i := 77) rfl))) (ty := (.object "java/util/List")) (by decide)
      have K503 : Keep h0 h503 [] := Keep.ext (Keep.refl h0 []) E503
      have Z503 : n0 ≤ h503.size := Nat.le_trans Z0 E503.1
      refine Goes.by st503 ?_
      refine Goes.by (fun _ kz => XS.dup X503.here hx rfl (hb hby d6_34) rfl rfl (XS.aloadN X503.here hx rfl (hb hby d6_35) rfl rfl kz)) ?_
      obtain ⟨_, _, ⟨T518, L518, k518, n518⟩, -, X518, ⟨Lc518, hQ518, l518, y518, z518⟩, st518⟩ := X503.specialBack hx (y := (⟨"java/util/Collections$UnmodifiableRandomAccessList", "<init>", "(Ljava/util/List;)V"⟩ : MethodName)) rfl hown (mvT hZ (hw _ (List.mem_of_getElem? (i := 58) rfl))) (mvT hZ (hw _ (List.mem_of_getElem? (i := 59) rfl))) (mvT hZ (hw _ (List.mem_of_getElem? (i := 60) rfl))) (by decide) (backOf (W := 1) (r7_503 l Z a0 hw [] h503 n0 Z503 b471 b503 A503 F503_c F503_list g_b503) hZ (hw _ (List.mem_of_getElem? (i := 60) rfl)) (hw _ (List.mem_of_getElem? (i := 57) rfl)) (by decide) (by decide)) (g := (mkF m 36 #[rv b471] [(.ref b471), (.ref b503), (.ref b503)])) rfl (by rw [hml]; rfl) (Steps.refl _) (a := b503) (argsL := [(.ref b471)]) (rest := [(.ref b503)]) (lenOf pd2 rfl) rfl (by show 2 * 0 + _ ≤ _; exact Nat.le_of_eq rfl) (hb hby d6_36) (fun _ _ => ⟨rfl, e503, (by decide : 1 + 0 ≤ _), (by decide : 2 + 0 ≤ _)⟩)
      dsimp only [Pt.U, Pt.locs, Pt.cells, Pt.slots] at X518 l518 y518 z518 st518 hQ518
      subst l518 y518 z518
      obtain ⟨rfl, Nq518, Kq518, fq518_0, fq518_1⟩ := hQ518
      have K518 : Keep h0 T518.heap [] := Keep.trans K503 Kq518 (allS (Or.inr sz_b503) all0)
      have Z518 : n0 ≤ T518.heap.size := Nat.le_trans Z503 Kq518.1
      have N518 := Fr.app N0 Nq518
      refine Goes.tr st518 ?_
      refine Goes.by (fun _ kz => XS.goto X518.here hx rfl (pc0 := 39) (pc' := 50) rfl (hb hby d6_39) (by decide) (by decide) kz) ?_
      show Goes p e below (T518.setTop (mkF m 50 #[rv b471] [(.ref b503)])) _
      have f519 := (A503.keep Kq518)
      obtain ⟨fs, hr, hrun, hended, hW, hsame⟩ := X518.leave (v := some (.ref b503)) (fun h => by rw [Bd.returns] at h; cases h)
      exact ⟨_, _, retOut X518 hx (t := (.object "java/util/List")) Bd.returns rfl (Or.inr (Or.inr (Or.inr (Or.inr ⟨rfl, rfl, rfl⟩)))) (hb hby d6_50) hr, hrun, hended, _, _, rfl, (Or.inr (Or.inr ⟨b503, rfl, N518, K518, sz_b503, f519, fq518_0, fq518_1, hc498, hc501⟩)), ⟨_, rfl⟩, hW, hsame.mono (by decide) (by decide)⟩
def Q_r1_467 (Z : State) (mA : Addr) (mL : Addr) (mR : Addr) (q1 : Addr) (q2 : Addr) (b467 : Addr) (h0 : Heap) (n0 : Nat) (v : Option Value) (h : Heap) (L : List Loc) : Prop := (∃ (b471 : Addr), v = none ∧ Fr n0 L ∧ Keep h0 h [b467] ∧ h0.size ≤ b471 ∧ Fld Z h b467 "com/example/entail/entail/model/EntrySettings" "rules" "Ljava/util/List;" (.ref b471) ∧ Fld Z h b467 "com/example/entail/entail/model/EntrySettings" "rulesView" "Ljava/util/List;" (.ref b471) ∧ Fld Z h b467 "com/example/entail/entail/model/EntrySettings" "blockedTrusteesView" "Ljava/util/Set;" (.ref q2) ∧ Fld Z h b467 "com/example/entail/entail/model/EntrySettings" "blocks" "Z" (.int 0) ∧ Exa Z h b471 "java/util/ArrayList" ∧ Fld Z h b471 "java/util/AbstractList" "modCount" "I" (.int 0) ∧ Fld Z h b471 "java/util/ArrayList" "elementData" "[Ljava/lang/Object;" (.ref q1) ∧ mA = mL) ∨ (∃ (b471 : Addr), v = none ∧ Fr n0 L ∧ Keep h0 h [b467] ∧ h0.size ≤ b471 ∧ Fld Z h b467 "com/example/entail/entail/model/EntrySettings" "rules" "Ljava/util/List;" (.ref b471) ∧ Fld Z h b467 "com/example/entail/entail/model/EntrySettings" "rulesView" "Ljava/util/List;" (.ref b471) ∧ Fld Z h b467 "com/example/entail/entail/model/EntrySettings" "blockedTrusteesView" "Ljava/util/Set;" (.ref q2) ∧ Fld Z h b467 "com/example/entail/entail/model/EntrySettings" "blocks" "Z" (.int 0) ∧ Exa Z h b471 "java/util/ArrayList" ∧ Fld Z h b471 "java/util/AbstractList" "modCount" "I" (.int 0) ∧ Fld Z h b471 "java/util/ArrayList" "elementData" "[Ljava/lang/Object;" (.ref q1) ∧ ¬ (mA = mL) ∧ mA = mR) ∨ (∃ (b471 : Addr) (b503_522 : Addr), v = none ∧ Fr n0 L ∧ Keep h0 h [b467] ∧ h0.size ≤ b471 ∧ h0.size ≤ b503_522 ∧ Fld Z h b467 "com/example/entail/entail/model/EntrySettings" "rules" "Ljava/util/List;" (.ref b471) ∧ Fld Z h b467 "com/example/entail/entail/model/EntrySettings" "rulesView" "Ljava/util/List;" (.ref b503_522) ∧ Fld Z h b467 "com/example/entail/entail/model/EntrySettings" "blockedTrusteesView" "Ljava/util/Set;" (.ref q2) ∧ Fld Z h b467 "com/example/entail/entail/model/EntrySettings" "blocks" "Z" (.int 0) ∧ Exa Z h b471 "java/util/ArrayList" ∧ Fld Z h b471 "java/util/AbstractList" "modCount" "I" (.int 0) ∧ Fld Z h b471 "java/util/ArrayList" "elementData" "[Ljava/lang/Object;" (.ref q1) ∧ Exa Z h b503_522 "java/util/Collections$UnmodifiableRandomAccessList" ∧ Fld Z h b503_522 "java/util/Collections$UnmodifiableCollection" "c" "Ljava/util/Collection;" (.ref b471) ∧ Fld Z h b503_522 "java/util/Collections$UnmodifiableList" "list" "Ljava/util/List;" (.ref b471) ∧ ¬ (mA = mL) ∧ ¬ (mA = mR))
set_option maxRecDepth 65536 in
set_option maxHeartbeats 40000000 in
theorem r1_467 (l : Launch) (Z : State) (a0 : Array Value) (hw : ∀ d ∈ tables_1, d.before a0 Z = true) (ws : List Jvm.Cond) (h0 : Heap) (n0 : Nat) (Z0 : n0 ≤ h0.size) (mA : Addr) (mL : Addr) (mR : Addr) (q1 : Addr) (q2 : Addr) (b467 : Addr) (u468_0 : Sta Z h0 "java/util/ArrayList" "DEFAULTCAPACITY_EMPTY_ELEMENTDATA" "[Ljava/lang/Object;" (.ref q1)) (u468_1 : Sta Z h0 "java/util/ImmutableCollections" "EMPTY_SET" "Ljava/util/ImmutableCollections$SetN;" (.ref q2)) (u468_2 : Exa Z h0 b467 "com/example/entail/entail/model/EntrySettings") (u468_3 : Fld Z h0 b467 "com/example/entail/entail/model/EntrySettings" "rules" "Ljava/util/List;" .null) (u468_4 : Fld Z h0 b467 "com/example/entail/entail/model/EntrySettings" "rulesView" "Ljava/util/List;" .null) (u468_5 : Fld Z h0 b467 "com/example/entail/entail/model/EntrySettings" "blockedTrusteesView" "Ljava/util/Set;" .null) (u468_6 : Fld Z h0 b467 "com/example/entail/entail/model/EntrySettings" "blocks" "Z" (.int 0)) (MA : OwnMir Z "java/util/ArrayList" mA) (ML : OwnMir Z "java/util/Collections$UnmodifiableList" mL) (MR : OwnMir Z "java/util/Collections$UnmodifiableRandomAccessList" mR) (g_b467 : n0 ≤ b467) :
    MetFree l (⟨"com/example/entail/entail/model/EntrySettings", "<init>", "()V"⟩ : MethodName) (head1 (Jvm.Cond.code (⟨"com/example/entail/entail/model/EntrySettings", "<init>", "()V"⟩ : MethodName) prog_7_method_1_code 1 none :: ws) ({ frames := 5, cells := 2, slots := 5, locals := 77 } : Room)) (fun a U => a = #[(.ref b467)] ∧ Z.Warmed39 U.vm ∧ U.heap = h0) (fun _ _ _ _ _ => True) (fun _ U o U' => ∃ v L, o = .returned v ∧ Q_r1_467 Z mA mL mR q1 q2 b467 h0 n0 v U'.heap L ∧ FrameEnd U o U' L ({ frames := 5, cells := 2, slots := 5, locals := 77 } : Room).cells ({ frames := 5, cells := 2, slots := 5, locals := 77 } : Room).slots) := by
  refine MetFree.of_bodySF (plainFor_of_name pn8) hisR ?_
  intro p e s m args below meth c s₁ Bd hml0 hP hK
  obtain ⟨rfl, hZ, hh⟩ := hP
  have hx := Bd.exec
  have hby := Bd.bytes
  have hml : c.maxLocals = 1 := hml0
  have hown : s.vm.findClass "com/example/entail/entail/model/EntrySettings" = some m.cls := findClass_of_methodNamed Bd.named
  have hnm := (name_of_methodNamed Bd.named Bd.method).1
  have X0 : Stand p l e ({ frames := 5, cells := 2, slots := 5, locals := 77 } : Room) s m #[(.ref b467)] below meth c s₁ [] 0 0 := Stand.of_body Bd
  have e0 : s₁.heap = h0 := by rw [← hh, Bd.state]; rfl
  have N0 := Fr.nil n0
  refine Goes.out (Goes.by (fun tz kz => castTop (ef1_R m b467) kz) ?_)
  show Goes p e below (s₁.setTop (mkF m 0 #[rv b467] [])) _
  refine Goes.by (fun _ kz => XS.aloadN X0.here hx rfl (hb hby d1_0) rfl rfl kz) ?_
  obtain ⟨T470, X470, e470, st470⟩ := initO X0 hx hZ hown (hw _ (List.mem_of_getElem? (i := 6) rfl)) (hw _ (List.mem_of_getElem? (i := 7) rfl)) (hw _ (List.mem_of_getElem? (i := 8) rfl)) e0 (g := (mkF m 1 #[rv b467] [(.ref b467)])) rfl (by rw [hml]; rfl) rfl (hb hby d1_1) (by decide) (W := 0) (by show 2 * 0 + _ ≤ _; exact Nat.le_of_eq rfl) (by decide)
  refine Goes.by st470 ?_
  refine Goes.by (fun _ kz => XS.aloadN X470.here hx rfl (hb hby d1_4) rfl rfl kz) ?_
  obtain ⟨T471, h471, X471, e471, E471, A471, D471, -, st471⟩ := newO X470 hx hZ hown (hw _ (List.mem_of_getElem? (i := 9) rfl)) (hw _ (List.mem_of_getElem? (i := 10) rfl)) (hw _ (List.mem_of_getElem? (i := 11) rfl)) e470 (g := (mkF m 5 #[rv b467] [(.ref b467)])) rfl (hb hby d1_5) (by decide) (by decide)
  obtain ⟨b471, g471⟩ : ∃ z, z = h0.size := ⟨_, rfl⟩
  rw [← g471] at A471 D471 st471
  have ne471_b467 : b467 ≠ b471 := Nat.ne_of_lt (Nat.lt_of_lt_of_le u468_2.lt (Nat.le_of_eq g471.symm))
  have g_b471 : n0 ≤ b471 := Nat.le_trans Z0 (Nat.le_of_eq g471.symm)
  have sz_b471 : h0.size ≤ b471 := Nat.le_of_eq g471.symm
  have F471_modCount : Fld Z h471 b471 "java/util/AbstractList" "modCount" "I" (.int 0) := D471 (Or.inl (hw _ (List.mem_of_getElem? (i := 29) rfl))) (ty := .int) (by decide)
  have F471_elementData : Fld Z h471 b471 "java/util/ArrayList" "elementData" "[Ljava/lang/Object;" .null := D471 (Or.inl (hw _ (List.mem_of_getElem? (i := 32) rfl))) (ty := (.array (.object "java/lang/Object"))) (by decide)
  have K471 : Keep h0 h471 [b467] := Keep.ext (Keep.refl h0 [b467]) E471
  have Z471 : n0 ≤ h471.size := Nat.le_trans Z0 E471.1
  refine Goes.by st471 ?_
  refine Goes.by (fun _ kz => XS.dup X471.here hx rfl (hb hby d1_8) rfl rfl kz) ?_
  have f488 := (u468_0.ext E471)
  obtain ⟨_, _, ⟨T489, L489, k489, n489⟩, -, X489, ⟨Lc489, hQ489, l489, y489, z489⟩, st489⟩ := X471.specialBack hx (y := (⟨"java/util/ArrayList", "<init>", "()V"⟩ : MethodName)) rfl hown (mvT hZ (hw _ (List.mem_of_getElem? (i := 12) rfl))) (mvT hZ (hw _ (List.mem_of_getElem? (i := 13) rfl))) (mvT hZ (hw _ (List.mem_of_getElem? (i := 14) rfl))) (by decide) (backOf (W := 2) (r3_471 l Z a0 hw [] h471 n0 Z471 q1 b471 f488 A471 F471_modCount F471_elementData g_b471) hZ (hw _ (List.mem_of_getElem? (i := 14) rfl)) (hw _ (List.mem_of_getElem? (i := 11) rfl)) (by decide) (by decide)) (g := (mkF m 9 #[rv b467] [(.ref b471), (.ref b471), (.ref b467)])) rfl (by rw [hml]; rfl) (Steps.refl _) (a := b471) (argsL := []) (rest := [(.ref b471), (.ref b467)]) (lenOf pd0 rfl) rfl (by show 2 * 0 + _ ≤ _; exact Nat.le_of_eq rfl) (hb hby d1_9) (fun _ _ => ⟨rfl, e471, (by decide : 1 + 0 ≤ _), (by decide : 3 + 0 ≤ _)⟩)
  dsimp only [Pt.U, Pt.locs, Pt.cells, Pt.slots] at X489 l489 y489 z489 st489 hQ489
  subst l489 y489 z489
  obtain ⟨rfl, Nq489, Kq489, fq489_0, fq489_1⟩ := hQ489
  have K489 : Keep h0 T489.heap [b467] := Keep.trans K471 Kq489 (allS (Or.inr sz_b471) all0)
  have Z489 : n0 ≤ T489.heap.size := Nat.le_trans Z471 Kq489.1
  have N489 := Fr.app N0 Nq489
  refine Goes.tr st489 ?_
  have f490 := ((u468_2.ext E471).keep Kq489)
  have f491 := ((u468_3.ext E471).keep Kq489 (ninS ne471_b467 nin0))
  obtain ⟨T492, h492, X492, e492, W492, st492⟩ := putF X489 hx hZ hown (host := "") (Or.inl (hw _ (List.mem_of_getElem? (i := 33) rfl))) Via.refl rfl f491 f490 (Or.inr ⟨(hw _ (List.mem_of_getElem? (i := 34) rfl)), rfl, hnm⟩) (hw _ (List.mem_of_getElem? (i := 1) rfl)) (ty := (.object "java/util/List")) (by decide) rfl rfl (g := (mkF m 12 #[rv b467] [(.ref b471), (.ref b467)])) rfl rfl (hb hby d1_12)
  have Fw492 := Fld.same W492 f491
  have K492 : Keep h0 h492 [b467] := Keep.wr K489 W492 (Or.inl (List.mem_of_getElem? (i := 0) rfl))
  have Z492 : n0 ≤ h492.size := Nat.le_trans Z489 (Keep.of_wr W492).1
  have N492 := Fr.snoc X492 N489 g_b467
  refine Goes.by st492 ?_
  refine Goes.by (fun _ kz => XS.aloadN X492.here hx rfl (hb hby d1_15) rfl rfl (XS.aloadN X492.here hx rfl (hb hby d1_16) rfl rfl kz)) ?_
  obtain ⟨T493, X493, e493, st493⟩ := getF X492 hx hZ hown (host := "") (Or.inl (hw _ (List.mem_of_getElem? (i := 33) rfl))) Via.refl e492 Fw492 (g := (mkF m 17 #[rv b467] [(.ref b467), (.ref b467)])) rfl rfl (hb hby d1_17)
  refine Goes.by st493 ?_
  have f520 := (Exa.wr W492 f490)
  have f521 := (Exa.wr W492 (A471.keep Kq489))
  obtain ⟨_, _, ⟨T522, L522, k522, n522⟩, -, X522, ⟨Lc522, hQ522, l522, y522, z522⟩, st522⟩ := Jvm.LawKit.callS X493 hx (y := (⟨"java/util/Collections", "unmodifiableList", "(Ljava/util/List;)Ljava/util/List;"⟩ : MethodName)) hown (mvT hZ (hw _ (List.mem_of_getElem? (i := 35) rfl))) (mvT hZ (hw _ (List.mem_of_getElem? (i := 36) rfl))) (mvT hZ (hw _ (List.mem_of_getElem? (i := 37) rfl))) (mvT hZ (hw _ (List.mem_of_getElem? (i := 38) rfl))) (by decide) (backOf (W := 1) (r6_493 l Z a0 hw [] h492 n0 Z492 mA mL mR b467 b471 f520 f521 MA ML MR) hZ (hw _ (List.mem_of_getElem? (i := 38) rfl)) (hw _ (List.mem_of_getElem? (i := 37) rfl)) (by decide) (by decide)) (g := (mkF m 20 #[rv b467] [(.ref b471), (.ref b467)])) rfl (by rw [hml]; rfl) (argsL := [(.ref b471)]) (rest := [(.ref b467)]) (lenOf pd3 rfl) rfl (by show 2 * 0 + _ ≤ _; exact Nat.le_of_eq rfl) (hb hby d1_20) (fun _ _ => ⟨rfl, e493, (by decide : 1 + 1 ≤ _), (by decide : 3 + 2 ≤ _)⟩)
  dsimp only [Pt.U, Pt.locs, Pt.cells, Pt.slots] at X522 l522 y522 z522 st522 hQ522
  subst l522 y522 z522
  rcases hQ522 with hQ522 | hQ522 | hQ522
  · obtain ⟨rfl, Nq522, e522, hc522_498⟩ := hQ522
    have N522 := Fr.app N492 Nq522
    refine Goes.by st522 ?_
    have f523 := (Fld.other W492 ((u468_4.ext E471).keep Kq489 (ninS ne471_b467 nin0)) (Or.inr (slot_ne (Or.inr (hw _ (List.mem_of_getElem? (i := 79) rfl))) (Or.inr (hw _ (List.mem_of_getElem? (i := 34) rfl))) (by decide) (t := (.object "java/util/List")) (t' := (.object "java/util/List")) (by decide) (by decide))))
    obtain ⟨T524, h524, X524, e524, W524, st524⟩ := putF X522 hx hZ hown (host := "") (Or.inl (hw _ (List.mem_of_getElem? (i := 78) rfl))) Via.refl e522 f523 f520 (Or.inr ⟨(hw _ (List.mem_of_getElem? (i := 79) rfl)), rfl, hnm⟩) (hw _ (List.mem_of_getElem? (i := 1) rfl)) (ty := (.object "java/util/List")) (by decide) rfl rfl (g := (mkF m 23 #[rv b467] [(.ref b471), (.ref b467)])) rfl rfl (hb hby d1_23)
    have Fw524 := Fld.same W524 f523
    have K524 : Keep h0 h524 [b467] := Keep.wr K492 W524 (Or.inl (List.mem_of_getElem? (i := 0) rfl))
    have Z524 : n0 ≤ h524.size := Nat.le_trans Z492 (Keep.of_wr W524).1
    have N524 := Fr.snoc X524 N522 g_b467
    refine Goes.by st524 ?_
    refine Goes.by (fun _ kz => XS.aloadN X524.here hx rfl (hb hby d1_26) rfl rfl kz) ?_
    have f525 := (Sta.wr W524 (Sta.wr W492 (own_staKeep (u468_1.ext E471) Kq489 (allS (own_nsE A471) all0))))
    obtain ⟨_, _, ⟨T526, L526, k526, n526⟩, -, X526, ⟨Lc526, hQ526, l526, y526, z526⟩, st526⟩ := Jvm.LawKit.callS X524 hx (y := (⟨"java/util/Set", "of", "()Ljava/util/Set;"⟩ : MethodName)) hown (mvT hZ (hw _ (List.mem_of_getElem? (i := 80) rfl))) (mvT hZ (hw _ (List.mem_of_getElem? (i := 81) rfl))) (mvT hZ (hw _ (List.mem_of_getElem? (i := 82) rfl))) (mvT hZ (hw _ (List.mem_of_getElem? (i := 83) rfl))) (by decide) (backOf (W := 1) (r10_58 l Z a0 hw [] h524 n0 Z524 q2 f525) hZ (hw _ (List.mem_of_getElem? (i := 83) rfl)) (hw _ (List.mem_of_getElem? (i := 82) rfl)) (by decide) (by decide)) (g := (mkF m 27 #[rv b467] [(.ref b467)])) rfl (by rw [hml]; rfl) (argsL := []) (rest := [(.ref b467)]) (lenOf pd4 rfl) rfl (by show 2 * 0 + _ ≤ _; exact Nat.le_of_eq rfl) (hb hby d1_27) (fun _ _ => ⟨rfl, e524, (by decide : 2 + 0 ≤ _), (by decide : 5 + 0 ≤ _)⟩)
    dsimp only [Pt.U, Pt.locs, Pt.cells, Pt.slots] at X526 l526 y526 z526 st526 hQ526
    subst l526 y526 z526
    obtain ⟨rfl, Nq526, e526⟩ := hQ526
    have N526 := Fr.app N524 Nq526
    refine Goes.by st526 ?_
    have f527 := (Exa.wr W524 f520)
    have f528 := (Fld.other W524 (Fld.other W492 ((u468_5.ext E471).keep Kq489 (ninS ne471_b467 nin0)) (Or.inr (slot_ne (Or.inl (hw _ (List.mem_of_getElem? (i := 87) rfl))) (Or.inr (hw _ (List.mem_of_getElem? (i := 34) rfl))) (by decide) (t := (.object "java/util/Set")) (t' := (.object "java/util/List")) (by decide) (by decide)))) (Or.inr (slot_ne (Or.inl (hw _ (List.mem_of_getElem? (i := 87) rfl))) (Or.inr (hw _ (List.mem_of_getElem? (i := 79) rfl))) (by decide) (t := (.object "java/util/Set")) (t' := (.object "java/util/List")) (by decide) (by decide))))
    obtain ⟨T529, h529, X529, e529, W529, st529⟩ := putF X526 hx hZ hown (host := "") (Or.inl (hw _ (List.mem_of_getElem? (i := 86) rfl))) Via.refl e526 f528 f527 (Or.inl (hw _ (List.mem_of_getElem? (i := 87) rfl))) (hw _ (List.mem_of_getElem? (i := 1) rfl)) (ty := (.object "java/util/Set")) (by decide) rfl rfl (g := (mkF m 30 #[rv b467] [(.ref q2), (.ref b467)])) rfl rfl (hb hby d1_30)
    have Fw529 := Fld.same W529 f528
    have K529 : Keep h0 h529 [b467] := Keep.wr K524 W529 (Or.inl (List.mem_of_getElem? (i := 0) rfl))
    have Z529 : n0 ≤ h529.size := Nat.le_trans Z524 (Keep.of_wr W529).1
    have N529 := Fr.snoc X529 N526 g_b467
    refine Goes.by st529 ?_
    show Goes p e below (T529.setTop (mkF m 33 #[rv b467] [])) _
    have f530 := (Fld.other W529 (Fld.other W524 Fw492 (Or.inr (slot_ne (Or.inr (hw _ (List.mem_of_getElem? (i := 34) rfl))) (Or.inr (hw _ (List.mem_of_getElem? (i := 79) rfl))) (by decide) (t := (.object "java/util/List")) (t' := (.object "java/util/List")) (by decide) (by decide)))) (Or.inr (slot_ne (Or.inr (hw _ (List.mem_of_getElem? (i := 34) rfl))) (Or.inl (hw _ (List.mem_of_getElem? (i := 87) rfl))) (by decide) (t := (.object "java/util/List")) (t' := (.object "java/util/Set")) (by decide) (by decide))))
    have f531 := (Fld.other W529 Fw524 (Or.inr (slot_ne (Or.inr (hw _ (List.mem_of_getElem? (i := 79) rfl))) (Or.inl (hw _ (List.mem_of_getElem? (i := 87) rfl))) (by decide) (t := (.object "java/util/List")) (t' := (.object "java/util/Set")) (by decide) (by decide))))
    have f532 := (Fld.other W529 (Fld.other W524 (Fld.other W492 ((u468_6.ext E471).keep Kq489 (ninS ne471_b467 nin0)) (Or.inr (slot_ne (Or.inl (hw _ (List.mem_of_getElem? (i := 94) rfl))) (Or.inr (hw _ (List.mem_of_getElem? (i := 34) rfl))) (by decide) (t := .boolean) (t' := (.object "java/util/List")) (by decide) (by decide)))) (Or.inr (slot_ne (Or.inl (hw _ (List.mem_of_getElem? (i := 94) rfl))) (Or.inr (hw _ (List.mem_of_getElem? (i := 79) rfl))) (by decide) (t := .boolean) (t' := (.object "java/util/List")) (by decide) (by decide)))) (Or.inr (slot_ne (Or.inl (hw _ (List.mem_of_getElem? (i := 94) rfl))) (Or.inl (hw _ (List.mem_of_getElem? (i := 87) rfl))) (by decide) (t := .boolean) (t' := (.object "java/util/Set")) (by decide) (by decide))))
    have f533 := (Exa.wr W529 (Exa.wr W524 f521))
    have f534 := (Fld.other W529 (Fld.other W524 (Fld.other W492 fq489_0 (Or.inl (Ne.symm ne471_b467))) (Or.inl (Ne.symm ne471_b467))) (Or.inl (Ne.symm ne471_b467)))
    have f535 := (Fld.other W529 (Fld.other W524 (Fld.other W492 fq489_1 (Or.inl (Ne.symm ne471_b467))) (Or.inl (Ne.symm ne471_b467))) (Or.inl (Ne.symm ne471_b467)))
    obtain ⟨fs, hr, hrun, hended, hW, hsame⟩ := X529.leave (v := none) (fun _ => rfl)
    exact ⟨_, _, X529.returnOut hx Bd.returns (hb hby d1_33) hr, hrun, hended, _, _, rfl, (by rw [show (T529.setFrames fs).heap = h529 from e529]; exact (Or.inl ⟨b471, rfl, N529, K529, sz_b471, f530, f531, Fw529, f532, f533, f534, f535, hc522_498⟩)), ⟨_, rfl⟩, hW, hsame.mono (by decide) (by decide)⟩
  · obtain ⟨rfl, Nq522, e522, hc522_498, hc522_501⟩ := hQ522
    have N522 := Fr.app N492 Nq522
    refine Goes.by st522 ?_
    have f536 := (Fld.other W492 ((u468_4.ext E471).keep Kq489 (ninS ne471_b467 nin0)) (Or.inr (slot_ne (Or.inr (hw _ (List.mem_of_getElem? (i := 79) rfl))) (Or.inr (hw _ (List.mem_of_getElem? (i := 34) rfl))) (by decide) (t := (.object "java/util/List")) (t' := (.object "java/util/List")) (by decide) (by decide))))
    obtain ⟨T537, h537, X537, e537, W537, st537⟩ := putF X522 hx hZ hown (host := "") (Or.inl (hw _ (List.mem_of_getElem? (i := 78) rfl))) Via.refl e522 f536 f520 (Or.inr ⟨(hw _ (List.mem_of_getElem? (i := 79) rfl)), rfl, hnm⟩) (hw _ (List.mem_of_getElem? (i := 1) rfl)) (ty := (.object "java/util/List")) (by decide) rfl rfl (g := (mkF m 23 #[rv b467] [(.ref b471), (.ref b467)])) rfl rfl (hb hby d1_23)
    have Fw537 := Fld.same W537 f536
    have K537 : Keep h0 h537 [b467] := Keep.wr K492 W537 (Or.inl (List.mem_of_getElem? (i := 0) rfl))
    have Z537 : n0 ≤ h537.size := Nat.le_trans Z492 (Keep.of_wr W537).1
    have N537 := Fr.snoc X537 N522 g_b467
    refine Goes.by st537 ?_
    refine Goes.by (fun _ kz => XS.aloadN X537.here hx rfl (hb hby d1_26) rfl rfl kz) ?_
    have f538 := (Sta.wr W537 (Sta.wr W492 (own_staKeep (u468_1.ext E471) Kq489 (allS (own_nsE A471) all0))))
    obtain ⟨_, _, ⟨T539, L539, k539, n539⟩, -, X539, ⟨Lc539, hQ539, l539, y539, z539⟩, st539⟩ := Jvm.LawKit.callS X537 hx (y := (⟨"java/util/Set", "of", "()Ljava/util/Set;"⟩ : MethodName)) hown (mvT hZ (hw _ (List.mem_of_getElem? (i := 80) rfl))) (mvT hZ (hw _ (List.mem_of_getElem? (i := 81) rfl))) (mvT hZ (hw _ (List.mem_of_getElem? (i := 82) rfl))) (mvT hZ (hw _ (List.mem_of_getElem? (i := 83) rfl))) (by decide) (backOf (W := 1) (r10_58 l Z a0 hw [] h537 n0 Z537 q2 f538) hZ (hw _ (List.mem_of_getElem? (i := 83) rfl)) (hw _ (List.mem_of_getElem? (i := 82) rfl)) (by decide) (by decide)) (g := (mkF m 27 #[rv b467] [(.ref b467)])) rfl (by rw [hml]; rfl) (argsL := []) (rest := [(.ref b467)]) (lenOf pd4 rfl) rfl (by show 2 * 0 + _ ≤ _; exact Nat.le_of_eq rfl) (hb hby d1_27) (fun _ _ => ⟨rfl, e537, (by decide : 2 + 0 ≤ _), (by decide : 5 + 0 ≤ _)⟩)
    dsimp only [Pt.U, Pt.locs, Pt.cells, Pt.slots] at X539 l539 y539 z539 st539 hQ539
    subst l539 y539 z539
    obtain ⟨rfl, Nq539, e539⟩ := hQ539
    have N539 := Fr.app N537 Nq539
    refine Goes.by st539 ?_
    have f540 := (Exa.wr W537 f520)
    have f541 := (Fld.other W537 (Fld.other W492 ((u468_5.ext E471).keep Kq489 (ninS ne471_b467 nin0)) (Or.inr (slot_ne (Or.inl (hw _ (List.mem_of_getElem? (i := 87) rfl))) (Or.inr (hw _ (List.mem_of_getElem? (i := 34) rfl))) (by decide) (t := (.object "java/util/Set")) (t' := (.object "java/util/List")) (by decide) (by decide)))) (Or.inr (slot_ne (Or.inl (hw _ (List.mem_of_getElem? (i := 87) rfl))) (Or.inr (hw _ (List.mem_of_getElem? (i := 79) rfl))) (by decide) (t := (.object "java/util/Set")) (t' := (.object "java/util/List")) (by decide) (by decide))))
    obtain ⟨T542, h542, X542, e542, W542, st542⟩ := putF X539 hx hZ hown (host := "") (Or.inl (hw _ (List.mem_of_getElem? (i := 86) rfl))) Via.refl e539 f541 f540 (Or.inl (hw _ (List.mem_of_getElem? (i := 87) rfl))) (hw _ (List.mem_of_getElem? (i := 1) rfl)) (ty := (.object "java/util/Set")) (by decide) rfl rfl (g := (mkF m 30 #[rv b467] [(.ref q2), (.ref b467)])) rfl rfl (hb hby d1_30)
    have Fw542 := Fld.same W542 f541
    have K542 : Keep h0 h542 [b467] := Keep.wr K537 W542 (Or.inl (List.mem_of_getElem? (i := 0) rfl))
    have Z542 : n0 ≤ h542.size := Nat.le_trans Z537 (Keep.of_wr W542).1
    have N542 := Fr.snoc X542 N539 g_b467
    refine Goes.by st542 ?_
    show Goes p e below (T542.setTop (mkF m 33 #[rv b467] [])) _
    have f543 := (Fld.other W542 (Fld.other W537 Fw492 (Or.inr (slot_ne (Or.inr (hw _ (List.mem_of_getElem? (i := 34) rfl))) (Or.inr (hw _ (List.mem_of_getElem? (i := 79) rfl))) (by decide) (t := (.object "java/util/List")) (t' := (.object "java/util/List")) (by decide) (by decide)))) (Or.inr (slot_ne (Or.inr (hw _ (List.mem_of_getElem? (i := 34) rfl))) (Or.inl (hw _ (List.mem_of_getElem? (i := 87) rfl))) (by decide) (t := (.object "java/util/List")) (t' := (.object "java/util/Set")) (by decide) (by decide))))
    have f544 := (Fld.other W542 Fw537 (Or.inr (slot_ne (Or.inr (hw _ (List.mem_of_getElem? (i := 79) rfl))) (Or.inl (hw _ (List.mem_of_getElem? (i := 87) rfl))) (by decide) (t := (.object "java/util/List")) (t' := (.object "java/util/Set")) (by decide) (by decide))))
    have f545 := (Fld.other W542 (Fld.other W537 (Fld.other W492 ((u468_6.ext E471).keep Kq489 (ninS ne471_b467 nin0)) (Or.inr (slot_ne (Or.inl (hw _ (List.mem_of_getElem? (i := 94) rfl))) (Or.inr (hw _ (List.mem_of_getElem? (i := 34) rfl))) (by decide) (t := .boolean) (t' := (.object "java/util/List")) (by decide) (by decide)))) (Or.inr (slot_ne (Or.inl (hw _ (List.mem_of_getElem? (i := 94) rfl))) (Or.inr (hw _ (List.mem_of_getElem? (i := 79) rfl))) (by decide) (t := .boolean) (t' := (.object "java/util/List")) (by decide) (by decide)))) (Or.inr (slot_ne (Or.inl (hw _ (List.mem_of_getElem? (i := 94) rfl))) (Or.inl (hw _ (List.mem_of_getElem? (i := 87) rfl))) (by decide) (t := .boolean) (t' := (.object "java/util/Set")) (by decide) (by decide))))
    have f546 := (Exa.wr W542 (Exa.wr W537 f521))
    have f547 := (Fld.other W542 (Fld.other W537 (Fld.other W492 fq489_0 (Or.inl (Ne.symm ne471_b467))) (Or.inl (Ne.symm ne471_b467))) (Or.inl (Ne.symm ne471_b467)))
    have f548 := (Fld.other W542 (Fld.other W537 (Fld.other W492 fq489_1 (Or.inl (Ne.symm ne471_b467))) (Or.inl (Ne.symm ne471_b467))) (Or.inl (Ne.symm ne471_b467)))
    obtain ⟨fs, hr, hrun, hended, hW, hsame⟩ := X542.leave (v := none) (fun _ => rfl)
    exact ⟨_, _, X542.returnOut hx Bd.returns (hb hby d1_33) hr, hrun, hended, _, _, rfl, (by rw [show (T542.setFrames fs).heap = h542 from e542]; exact (Or.inr (Or.inl ⟨b471, rfl, N542, K542, sz_b471, f543, f544, Fw542, f545, f546, f547, f548, hc522_498, hc522_501⟩))), ⟨_, rfl⟩, hW, hsame.mono (by decide) (by decide)⟩
  · obtain ⟨b503_522, rfl, Nq522, Kq522, sq522_b503, fq522_0, fq522_1, fq522_2, hc522_498, hc522_501⟩ := hQ522
    have K522 : Keep h0 T522.heap [b467] := Keep.trans K492 Kq522 all0
    have Z522 : n0 ≤ T522.heap.size := Nat.le_trans Z492 Kq522.1
    have ne522_b503_b467 : b467 ≠ b503_522 := Nat.ne_of_lt (Nat.lt_of_lt_of_le f520.lt sq522_b503)
    have ne522_b503_b471 : b471 ≠ b503_522 := Nat.ne_of_lt (Nat.lt_of_lt_of_le f521.lt sq522_b503)
    have g_b503_522 : n0 ≤ b503_522 := Nat.le_trans Z492 sq522_b503
    have sz_b503_522 : h0.size ≤ b503_522 := Nat.le_trans K492.1 sq522_b503
    have N522 := Fr.app N492 Nq522
    refine Goes.by st522 ?_
    have f549 := (f520.keep Kq522)
    have f550 := ((Fld.other W492 ((u468_4.ext E471).keep Kq489 (ninS ne471_b467 nin0)) (Or.inr (slot_ne (Or.inr (hw _ (List.mem_of_getElem? (i := 79) rfl))) (Or.inr (hw _ (List.mem_of_getElem? (i := 34) rfl))) (by decide) (t := (.object "java/util/List")) (t' := (.object "java/util/List")) (by decide) (by decide)))).keep Kq522 nin0)
    obtain ⟨T551, h551, X551, e551, W551, st551⟩ := putF X522 hx hZ hown (host := "") (Or.inl (hw _ (List.mem_of_getElem? (i := 78) rfl))) Via.refl rfl f550 f549 (Or.inr ⟨(hw _ (List.mem_of_getElem? (i := 79) rfl)), rfl, hnm⟩) (hw _ (List.mem_of_getElem? (i := 1) rfl)) (ty := (.object "java/util/List")) (by decide) rfl rfl (g := (mkF m 23 #[rv b467] [(.ref b503_522), (.ref b467)])) rfl rfl (hb hby d1_23)
    have Fw551 := Fld.same W551 f550
    have K551 : Keep h0 h551 [b467] := Keep.wr K522 W551 (Or.inl (List.mem_of_getElem? (i := 0) rfl))
    have Z551 : n0 ≤ h551.size := Nat.le_trans Z522 (Keep.of_wr W551).1
    have N551 := Fr.snoc X551 N522 g_b467
    refine Goes.by st551 ?_
    refine Goes.by (fun _ kz => XS.aloadN X551.here hx rfl (hb hby d1_26) rfl rfl kz) ?_
    have f552 := (Sta.wr W551 (own_staKeep (Sta.wr W492 (own_staKeep (u468_1.ext E471) Kq489 (allS (own_nsE A471) all0))) Kq522 all0))
    obtain ⟨_, _, ⟨T553, L553, k553, n553⟩, -, X553, ⟨Lc553, hQ553, l553, y553, z553⟩, st553⟩ := Jvm.LawKit.callS X551 hx (y := (⟨"java/util/Set", "of", "()Ljava/util/Set;"⟩ : MethodName)) hown (mvT hZ (hw _ (List.mem_of_getElem? (i := 80) rfl))) (mvT hZ (hw _ (List.mem_of_getElem? (i := 81) rfl))) (mvT hZ (hw _ (List.mem_of_getElem? (i := 82) rfl))) (mvT hZ (hw _ (List.mem_of_getElem? (i := 83) rfl))) (by decide) (backOf (W := 1) (r10_58 l Z a0 hw [] h551 n0 Z551 q2 f552) hZ (hw _ (List.mem_of_getElem? (i := 83) rfl)) (hw _ (List.mem_of_getElem? (i := 82) rfl)) (by decide) (by decide)) (g := (mkF m 27 #[rv b467] [(.ref b467)])) rfl (by rw [hml]; rfl) (argsL := []) (rest := [(.ref b467)]) (lenOf pd4 rfl) rfl (by show 2 * 0 + _ ≤ _; exact Nat.le_of_eq rfl) (hb hby d1_27) (fun _ _ => ⟨rfl, e551, (by decide : 2 + 0 ≤ _), (by decide : 5 + 0 ≤ _)⟩)
    dsimp only [Pt.U, Pt.locs, Pt.cells, Pt.slots] at X553 l553 y553 z553 st553 hQ553
    subst l553 y553 z553
    obtain ⟨rfl, Nq553, e553⟩ := hQ553
    have N553 := Fr.app N551 Nq553
    refine Goes.by st553 ?_
    have f554 := (Exa.wr W551 f549)
    have f555 := (Fld.other W551 ((Fld.other W492 ((u468_5.ext E471).keep Kq489 (ninS ne471_b467 nin0)) (Or.inr (slot_ne (Or.inl (hw _ (List.mem_of_getElem? (i := 87) rfl))) (Or.inr (hw _ (List.mem_of_getElem? (i := 34) rfl))) (by decide) (t := (.object "java/util/Set")) (t' := (.object "java/util/List")) (by decide) (by decide)))).keep Kq522 nin0) (Or.inr (slot_ne (Or.inl (hw _ (List.mem_of_getElem? (i := 87) rfl))) (Or.inr (hw _ (List.mem_of_getElem? (i := 79) rfl))) (by decide) (t := (.object "java/util/Set")) (t' := (.object "java/util/List")) (by decide) (by decide))))
    obtain ⟨T556, h556, X556, e556, W556, st556⟩ := putF X553 hx hZ hown (host := "") (Or.inl (hw _ (List.mem_of_getElem? (i := 86) rfl))) Via.refl e553 f555 f554 (Or.inl (hw _ (List.mem_of_getElem? (i := 87) rfl))) (hw _ (List.mem_of_getElem? (i := 1) rfl)) (ty := (.object "java/util/Set")) (by decide) rfl rfl (g := (mkF m 30 #[rv b467] [(.ref q2), (.ref b467)])) rfl rfl (hb hby d1_30)
    have Fw556 := Fld.same W556 f555
    have K556 : Keep h0 h556 [b467] := Keep.wr K551 W556 (Or.inl (List.mem_of_getElem? (i := 0) rfl))
    have Z556 : n0 ≤ h556.size := Nat.le_trans Z551 (Keep.of_wr W556).1
    have N556 := Fr.snoc X556 N553 g_b467
    refine Goes.by st556 ?_
    show Goes p e below (T556.setTop (mkF m 33 #[rv b467] [])) _
    have f557 := (Fld.other W556 (Fld.other W551 (Fw492.keep Kq522 nin0) (Or.inr (slot_ne (Or.inr (hw _ (List.mem_of_getElem? (i := 34) rfl))) (Or.inr (hw _ (List.mem_of_getElem? (i := 79) rfl))) (by decide) (t := (.object "java/util/List")) (t' := (.object "java/util/List")) (by decide) (by decide)))) (Or.inr (slot_ne (Or.inr (hw _ (List.mem_of_getElem? (i := 34) rfl))) (Or.inl (hw _ (List.mem_of_getElem? (i := 87) rfl))) (by decide) (t := (.object "java/util/List")) (t' := (.object "java/util/Set")) (by decide) (by decide))))
    have f558 := (Fld.other W556 Fw551 (Or.inr (slot_ne (Or.inr (hw _ (List.mem_of_getElem? (i := 79) rfl))) (Or.inl (hw _ (List.mem_of_getElem? (i := 87) rfl))) (by decide) (t := (.object "java/util/List")) (t' := (.object "java/util/Set")) (by decide) (by decide))))
    have f559 := (Fld.other W556 (Fld.other W551 ((Fld.other W492 ((u468_6.ext E471).keep Kq489 (ninS ne471_b467 nin0)) (Or.inr (slot_ne (Or.inl (hw _ (List.mem_of_getElem? (i := 94) rfl))) (Or.inr (hw _ (List.mem_of_getElem? (i := 34) rfl))) (by decide) (t := .boolean) (t' := (.object "java/util/List")) (by decide) (by decide)))).keep Kq522 nin0) (Or.inr (slot_ne (Or.inl (hw _ (List.mem_of_getElem? (i := 94) rfl))) (Or.inr (hw _ (List.mem_of_getElem? (i := 79) rfl))) (by decide) (t := .boolean) (t' := (.object "java/util/List")) (by decide) (by decide)))) (Or.inr (slot_ne (Or.inl (hw _ (List.mem_of_getElem? (i := 94) rfl))) (Or.inl (hw _ (List.mem_of_getElem? (i := 87) rfl))) (by decide) (t := .boolean) (t' := (.object "java/util/Set")) (by decide) (by decide))))
    have f560 := (Exa.wr W556 (Exa.wr W551 (f521.keep Kq522)))
    have f561 := (Fld.other W556 (Fld.other W551 ((Fld.other W492 fq489_0 (Or.inl (Ne.symm ne471_b467))).keep Kq522 nin0) (Or.inl (Ne.symm ne471_b467))) (Or.inl (Ne.symm ne471_b467)))
    have f562 := (Fld.other W556 (Fld.other W551 ((Fld.other W492 fq489_1 (Or.inl (Ne.symm ne471_b467))).keep Kq522 nin0) (Or.inl (Ne.symm ne471_b467))) (Or.inl (Ne.symm ne471_b467)))
    have f563 := (Exa.wr W556 (Exa.wr W551 fq522_0))
    have f564 := (Fld.other W556 (Fld.other W551 fq522_1 (Or.inl (Ne.symm ne522_b503_b467))) (Or.inl (Ne.symm ne522_b503_b467)))
    have f565 := (Fld.other W556 (Fld.other W551 fq522_2 (Or.inl (Ne.symm ne522_b503_b467))) (Or.inl (Ne.symm ne522_b503_b467)))
    obtain ⟨fs, hr, hrun, hended, hW, hsame⟩ := X556.leave (v := none) (fun _ => rfl)
    exact ⟨_, _, X556.returnOut hx Bd.returns (hb hby d1_33) hr, hrun, hended, _, _, rfl, (by rw [show (T556.setFrames fs).heap = h556 from e556]; exact (Or.inr (Or.inr ⟨b471, b503_522, rfl, N556, K556, sz_b471, sz_b503_522, f557, f558, Fw556, f559, f560, f561, f562, f563, f564, f565, hc522_498, hc522_501⟩))), ⟨_, rfl⟩, hW, hsame.mono (by decide) (by decide)⟩
def Q_r11_568 (Z : State) (b467 : Addr) (h0 : Heap) (n0 : Nat) (v : Option Value) (h : Heap) (L : List Loc) : Prop := (v = some (.int 0) ∧ Fr n0 L ∧ h = h0)
set_option maxRecDepth 65536 in
set_option maxHeartbeats 40000000 in
theorem r11_568 (l : Launch) (Z : State) (a0 : Array Value) (hw : ∀ d ∈ tables_1, d.before a0 Z = true) (ws : List Jvm.Cond) (h0 : Heap) (n0 : Nat) (Z0 : n0 ≤ h0.size) (b467 : Addr) (u569_6 : Fld Z h0 b467 "com/example/entail/entail/model/EntrySettings" "blocks" "Z" (.int 0))  :
    MetFree l (⟨"com/example/entail/entail/model/EntrySettings", "blocks", "()Z"⟩ : MethodName) (head1 (Jvm.Cond.code (⟨"com/example/entail/entail/model/EntrySettings", "blocks", "()Z"⟩ : MethodName) prog_7_method_3_code 1 (some .boolean) :: ws) ({ frames := 0, cells := 0, slots := 0, locals := 0 } : Room)) (fun a U => a = #[(.ref b467)] ∧ Z.Warmed39 U.vm ∧ U.heap = h0) (fun _ _ _ _ _ => True) (fun _ U o U' => ∃ v L, o = .returned v ∧ Q_r11_568 Z b467 h0 n0 v U'.heap L ∧ FrameEnd U o U' L ({ frames := 0, cells := 0, slots := 0, locals := 0 } : Room).cells ({ frames := 0, cells := 0, slots := 0, locals := 0 } : Room).slots) := by
  refine MetFree.of_bodySF (plainFor_of_name pn8) hisR ?_
  intro p e s m args below meth c s₁ Bd hml0 hP hK
  obtain ⟨rfl, hZ, hh⟩ := hP
  have hx := Bd.exec
  have hby := Bd.bytes
  have hml : c.maxLocals = 1 := hml0
  have hown : s.vm.findClass "com/example/entail/entail/model/EntrySettings" = some m.cls := findClass_of_methodNamed Bd.named
  have hnm := (name_of_methodNamed Bd.named Bd.method).1
  have X0 : Stand p l e ({ frames := 0, cells := 0, slots := 0, locals := 0 } : Room) s m #[(.ref b467)] below meth c s₁ [] 0 0 := Stand.of_body Bd
  have e0 : s₁.heap = h0 := by rw [← hh, Bd.state]; rfl
  have N0 := Fr.nil n0
  refine Goes.out (Goes.by (fun tz kz => castTop (ef11_R m b467) kz) ?_)
  show Goes p e below (s₁.setTop (mkF m 0 #[rv b467] [])) _
  refine Goes.by (fun _ kz => XS.aloadN X0.here hx rfl (hb hby d11_0) rfl rfl kz) ?_
  obtain ⟨T571, X571, e571, st571⟩ := getF X0 hx hZ hown (host := "") (Or.inl (hw _ (List.mem_of_getElem? (i := 93) rfl))) Via.refl e0 u569_6 (g := (mkF m 1 #[rv b467] [(.ref b467)])) rfl rfl (hb hby d11_1)
  refine Goes.by st571 ?_
  show Goes p e below (T571.setTop (mkF m 4 #[rv b467] [(.int 0)])) _
  obtain ⟨fs, hr, hrun, hended, hW, hsame⟩ := X571.leave (v := some (.int 0)) (fun h => by rw [Bd.returns] at h; cases h)
  exact ⟨_, _, retN X571 hx (t := .boolean) Bd.returns (by simp) (hb hby d11_4) hr, hrun, hended, _, _, rfl, ⟨rfl, N0, e571⟩, ⟨_, rfl⟩, hW, hsame.mono (by decide) (by decide)⟩
def Q_r12_573 (Z : State) (q2 : Addr) (b467 : Addr) (b471_568 : Addr) (h0 : Heap) (n0 : Nat) (v : Option Value) (h : Heap) (L : List Loc) : Prop := (v = some (.int 1) ∧ Fr n0 L ∧ Keep h0 h [b467] ∧ Fld Z h b467 "com/example/entail/entail/model/EntrySettings" "rules" "Ljava/util/List;" (.ref b471_568) ∧ Fld Z h b467 "com/example/entail/entail/model/EntrySettings" "rulesView" "Ljava/util/List;" (.ref b471_568) ∧ Fld Z h b467 "com/example/entail/entail/model/EntrySettings" "blockedTrusteesView" "Ljava/util/Set;" (.ref q2) ∧ Fld Z h b467 "com/example/entail/entail/model/EntrySettings" "blocks" "Z" (.int 1))
set_option maxRecDepth 65536 in
set_option maxHeartbeats 40000000 in
theorem r12_573 (l : Launch) (Z : State) (a0 : Array Value) (hw : ∀ d ∈ tables_1, d.before a0 Z = true) (ws : List Jvm.Cond) (h0 : Heap) (n0 : Nat) (Z0 : n0 ≤ h0.size) (q2 : Addr) (b467 : Addr) (b471_568 : Addr) (u574_2 : Exa Z h0 b467 "com/example/entail/entail/model/EntrySettings") (u574_3 : Fld Z h0 b467 "com/example/entail/entail/model/EntrySettings" "rules" "Ljava/util/List;" (.ref b471_568)) (u574_4 : Fld Z h0 b467 "com/example/entail/entail/model/EntrySettings" "rulesView" "Ljava/util/List;" (.ref b471_568)) (u574_5 : Fld Z h0 b467 "com/example/entail/entail/model/EntrySettings" "blockedTrusteesView" "Ljava/util/Set;" (.ref q2)) (u574_6 : Fld Z h0 b467 "com/example/entail/entail/model/EntrySettings" "blocks" "Z" (.int 0)) (g_b467 : n0 ≤ b467) :
    MetFree l (⟨"com/example/entail/entail/model/EntrySettings", "setBlocks", "(Z)Z"⟩ : MethodName) (head1 (Jvm.Cond.code (⟨"com/example/entail/entail/model/EntrySettings", "setBlocks", "(Z)Z"⟩ : MethodName) prog_7_method_7_code 3 (some .boolean) :: ws) ({ frames := 0, cells := 0, slots := 0, locals := 0 } : Room)) (fun a U => a = #[(.ref b467), (.int 1)] ∧ Z.Warmed39 U.vm ∧ U.heap = h0) (fun _ _ _ _ _ => True) (fun _ U o U' => ∃ v L, o = .returned v ∧ Q_r12_573 Z q2 b467 b471_568 h0 n0 v U'.heap L ∧ FrameEnd U o U' L ({ frames := 0, cells := 0, slots := 0, locals := 0 } : Room).cells ({ frames := 0, cells := 0, slots := 0, locals := 0 } : Room).slots) := by
  refine MetFree.of_bodySF (plainFor_of_name pn8) hisR ?_
  intro p e s m args below meth c s₁ Bd hml0 hP hK
  obtain ⟨rfl, hZ, hh⟩ := hP
  have hx := Bd.exec
  have hby := Bd.bytes
  have hml : c.maxLocals = 3 := hml0
  have hown : s.vm.findClass "com/example/entail/entail/model/EntrySettings" = some m.cls := findClass_of_methodNamed Bd.named
  have hnm := (name_of_methodNamed Bd.named Bd.method).1
  have X0 : Stand p l e ({ frames := 0, cells := 0, slots := 0, locals := 0 } : Room) s m #[(.ref b467), (.int 1)] below meth c s₁ [] 0 0 := Stand.of_body Bd
  have e0 : s₁.heap = h0 := by rw [← hh, Bd.state]; rfl
  have N0 := Fr.nil n0
  refine Goes.out (Goes.by (fun tz kz => castTop (ef12_RI m b467 ((1 : Int32))) kz) ?_)
  show Goes p e below (s₁.setTop (mkF m 0 #[rv b467, iv 1, .unset] [])) _
  refine Goes.by (fun _ kz => XS.aloadN X0.here hx rfl (hb hby d12_0) rfl rfl kz) ?_
  obtain ⟨T576, X576, e576, st576⟩ := getF X0 hx hZ hown (host := "") (Or.inl (hw _ (List.mem_of_getElem? (i := 93) rfl))) Via.refl e0 u574_6 (g := (mkF m 1 #[rv b467, iv 1, .unset] [(.ref b467)])) rfl rfl (hb hby d12_1)
  refine Goes.by st576 ?_
  refine Goes.by (fun _ kz => XS.iloadN X576.here hx rfl (hb hby d12_4) rfl (XS.icmpNo X576.here hx rfl (hb hby d12_5) rfl (feq (by decide : ¬ ((0 : Int32) = (1 : Int32)))).1 (XS.iconst X576.here hx rfl (hb hby d12_8) kz))) ?_
  show Goes p e below (T576.setTop (mkF m 9 #[rv b467, iv 1, .unset] [(.int 1)])) _
  refine Goes.by (fun _ kz => XS.goto X576.here hx rfl (pc0 := 9) (pc' := 13) rfl (hb hby d12_9) (by decide) (by decide) (XS.istoreN X576.here hx rfl (hb hby d12_13) rfl (l' := #[rv b467, iv 1, iv 1]) rfl (XS.aloadN X576.here hx rfl (hb hby d12_14) rfl rfl kz))) ?_
  show Goes p e below (T576.setTop (mkF m 15 #[rv b467, iv 1, iv 1] [(.ref b467)])) _
  refine Goes.by (fun _ kz => XS.iloadN X576.here hx rfl (hb hby d12_15) rfl kz) ?_
  obtain ⟨T577, h577, X577, e577, W577, st577⟩ := putFN X576 hx hZ hown (hw _ (List.mem_of_getElem? (i := 93) rfl)) Via.refl e576 u574_6 u574_2 (Or.inl (hw _ (List.mem_of_getElem? (i := 94) rfl))) (hw _ (List.mem_of_getElem? (i := 1) rfl)) (ty := .boolean) (v' := (.int 1)) (by decide) rfl rfl (g := (mkF m 16 #[rv b467, iv 1, iv 1] [(.int 1), (.ref b467)])) rfl rfl (hb hby d12_16)
  have Fw577 := Fld.same W577 u574_6
  have K577 : Keep h0 h577 [b467] := Keep.wr (Keep.refl h0 [b467]) W577 (Or.inl (List.mem_of_getElem? (i := 0) rfl))
  have Z577 : n0 ≤ h577.size := Nat.le_trans Z0 (Keep.of_wr W577).1
  have N577 := Fr.snoc X577 N0 g_b467
  refine Goes.by st577 ?_
  refine Goes.by (fun _ kz => XS.iloadN X577.here hx rfl (hb hby d12_19) rfl kz) ?_
  show Goes p e below (T577.setTop (mkF m 20 #[rv b467, iv 1, iv 1] [(.int 1)])) _
  have f578 := (Fld.other W577 u574_3 (Or.inr (slot_ne (Or.inr (hw _ (List.mem_of_getElem? (i := 34) rfl))) (Or.inl (hw _ (List.mem_of_getElem? (i := 94) rfl))) (by decide) (t := (.object "java/util/List")) (t' := .boolean) (by decide) (by decide))))
  have f579 := (Fld.other W577 u574_4 (Or.inr (slot_ne (Or.inr (hw _ (List.mem_of_getElem? (i := 79) rfl))) (Or.inl (hw _ (List.mem_of_getElem? (i := 94) rfl))) (by decide) (t := (.object "java/util/List")) (t' := .boolean) (by decide) (by decide))))
  have f580 := (Fld.other W577 u574_5 (Or.inr (slot_ne (Or.inl (hw _ (List.mem_of_getElem? (i := 87) rfl))) (Or.inl (hw _ (List.mem_of_getElem? (i := 94) rfl))) (by decide) (t := (.object "java/util/Set")) (t' := .boolean) (by decide) (by decide))))
  obtain ⟨fs, hr, hrun, hended, hW, hsame⟩ := X577.leave (v := some (.int 1)) (fun h => by rw [Bd.returns] at h; cases h)
  exact ⟨_, _, retN X577 hx (t := .boolean) Bd.returns (by simp) (hb hby d12_20) hr, hrun, hended, _, _, rfl, (by rw [show (T577.setFrames fs).heap = h577 from e577]; exact ⟨rfl, N577, K577, f578, f579, f580, Fw577⟩), ⟨_, rfl⟩, hW, hsame.mono (by decide) (by decide)⟩
def Q_r11_581 (Z : State) (b467 : Addr) (h0 : Heap) (n0 : Nat) (v : Option Value) (h : Heap) (L : List Loc) : Prop := (v = some (.int 1) ∧ Fr n0 L ∧ h = h0)
set_option maxRecDepth 65536 in
set_option maxHeartbeats 40000000 in
theorem r11_581 (l : Launch) (Z : State) (a0 : Array Value) (hw : ∀ d ∈ tables_1, d.before a0 Z = true) (ws : List Jvm.Cond) (h0 : Heap) (n0 : Nat) (Z0 : n0 ≤ h0.size) (b467 : Addr) (u582_9 : Fld Z h0 b467 "com/example/entail/entail/model/EntrySettings" "blocks" "Z" (.int 1))  :
    MetFree l (⟨"com/example/entail/entail/model/EntrySettings", "blocks", "()Z"⟩ : MethodName) (head1 (Jvm.Cond.code (⟨"com/example/entail/entail/model/EntrySettings", "blocks", "()Z"⟩ : MethodName) prog_7_method_3_code 1 (some .boolean) :: ws) ({ frames := 0, cells := 0, slots := 0, locals := 0 } : Room)) (fun a U => a = #[(.ref b467)] ∧ Z.Warmed39 U.vm ∧ U.heap = h0) (fun _ _ _ _ _ => True) (fun _ U o U' => ∃ v L, o = .returned v ∧ Q_r11_581 Z b467 h0 n0 v U'.heap L ∧ FrameEnd U o U' L ({ frames := 0, cells := 0, slots := 0, locals := 0 } : Room).cells ({ frames := 0, cells := 0, slots := 0, locals := 0 } : Room).slots) := by
  refine MetFree.of_bodySF (plainFor_of_name pn8) hisR ?_
  intro p e s m args below meth c s₁ Bd hml0 hP hK
  obtain ⟨rfl, hZ, hh⟩ := hP
  have hx := Bd.exec
  have hby := Bd.bytes
  have hml : c.maxLocals = 1 := hml0
  have hown : s.vm.findClass "com/example/entail/entail/model/EntrySettings" = some m.cls := findClass_of_methodNamed Bd.named
  have hnm := (name_of_methodNamed Bd.named Bd.method).1
  have X0 : Stand p l e ({ frames := 0, cells := 0, slots := 0, locals := 0 } : Room) s m #[(.ref b467)] below meth c s₁ [] 0 0 := Stand.of_body Bd
  have e0 : s₁.heap = h0 := by rw [← hh, Bd.state]; rfl
  have N0 := Fr.nil n0
  refine Goes.out (Goes.by (fun tz kz => castTop (ef11_R m b467) kz) ?_)
  show Goes p e below (s₁.setTop (mkF m 0 #[rv b467] [])) _
  refine Goes.by (fun _ kz => XS.aloadN X0.here hx rfl (hb hby d11_0) rfl rfl kz) ?_
  obtain ⟨T584, X584, e584, st584⟩ := getF X0 hx hZ hown (host := "") (Or.inl (hw _ (List.mem_of_getElem? (i := 93) rfl))) Via.refl e0 u582_9 (g := (mkF m 1 #[rv b467] [(.ref b467)])) rfl rfl (hb hby d11_1)
  refine Goes.by st584 ?_
  show Goes p e below (T584.setTop (mkF m 4 #[rv b467] [(.int 1)])) _
  obtain ⟨fs, hr, hrun, hended, hW, hsame⟩ := X584.leave (v := some (.int 1)) (fun h => by rw [Bd.returns] at h; cases h)
  exact ⟨_, _, retN X584 hx (t := .boolean) Bd.returns (by simp) (hb hby d11_4) hr, hrun, hended, _, _, rfl, ⟨rfl, N0, e584⟩, ⟨_, rfl⟩, hW, hsame.mono (by decide) (by decide)⟩
def Q_r12_586 (Z : State) (q2 : Addr) (b467 : Addr) (b471_568 : Addr) (h0 : Heap) (n0 : Nat) (v : Option Value) (h : Heap) (L : List Loc) : Prop := (v = some (.int 0) ∧ Fr n0 L ∧ Keep h0 h [b467] ∧ Fld Z h b467 "com/example/entail/entail/model/EntrySettings" "rules" "Ljava/util/List;" (.ref b471_568) ∧ Fld Z h b467 "com/example/entail/entail/model/EntrySettings" "rulesView" "Ljava/util/List;" (.ref b471_568) ∧ Fld Z h b467 "com/example/entail/entail/model/EntrySettings" "blockedTrusteesView" "Ljava/util/Set;" (.ref q2) ∧ Fld Z h b467 "com/example/entail/entail/model/EntrySettings" "blocks" "Z" (.int 1))
set_option maxRecDepth 65536 in
set_option maxHeartbeats 40000000 in
theorem r12_586 (l : Launch) (Z : State) (a0 : Array Value) (hw : ∀ d ∈ tables_1, d.before a0 Z = true) (ws : List Jvm.Cond) (h0 : Heap) (n0 : Nat) (Z0 : n0 ≤ h0.size) (q2 : Addr) (b467 : Addr) (b471_568 : Addr) (u587_2 : Exa Z h0 b467 "com/example/entail/entail/model/EntrySettings") (u587_6 : Fld Z h0 b467 "com/example/entail/entail/model/EntrySettings" "rules" "Ljava/util/List;" (.ref b471_568)) (u587_7 : Fld Z h0 b467 "com/example/entail/entail/model/EntrySettings" "rulesView" "Ljava/util/List;" (.ref b471_568)) (u587_8 : Fld Z h0 b467 "com/example/entail/entail/model/EntrySettings" "blockedTrusteesView" "Ljava/util/Set;" (.ref q2)) (u587_9 : Fld Z h0 b467 "com/example/entail/entail/model/EntrySettings" "blocks" "Z" (.int 1)) (g_b467 : n0 ≤ b467) :
    MetFree l (⟨"com/example/entail/entail/model/EntrySettings", "setBlocks", "(Z)Z"⟩ : MethodName) (head1 (Jvm.Cond.code (⟨"com/example/entail/entail/model/EntrySettings", "setBlocks", "(Z)Z"⟩ : MethodName) prog_7_method_7_code 3 (some .boolean) :: ws) ({ frames := 0, cells := 0, slots := 0, locals := 0 } : Room)) (fun a U => a = #[(.ref b467), (.int 1)] ∧ Z.Warmed39 U.vm ∧ U.heap = h0) (fun _ _ _ _ _ => True) (fun _ U o U' => ∃ v L, o = .returned v ∧ Q_r12_586 Z q2 b467 b471_568 h0 n0 v U'.heap L ∧ FrameEnd U o U' L ({ frames := 0, cells := 0, slots := 0, locals := 0 } : Room).cells ({ frames := 0, cells := 0, slots := 0, locals := 0 } : Room).slots) := by
  refine MetFree.of_bodySF (plainFor_of_name pn8) hisR ?_
  intro p e s m args below meth c s₁ Bd hml0 hP hK
  obtain ⟨rfl, hZ, hh⟩ := hP
  have hx := Bd.exec
  have hby := Bd.bytes
  have hml : c.maxLocals = 3 := hml0
  have hown : s.vm.findClass "com/example/entail/entail/model/EntrySettings" = some m.cls := findClass_of_methodNamed Bd.named
  have hnm := (name_of_methodNamed Bd.named Bd.method).1
  have X0 : Stand p l e ({ frames := 0, cells := 0, slots := 0, locals := 0 } : Room) s m #[(.ref b467), (.int 1)] below meth c s₁ [] 0 0 := Stand.of_body Bd
  have e0 : s₁.heap = h0 := by rw [← hh, Bd.state]; rfl
  have N0 := Fr.nil n0
  refine Goes.out (Goes.by (fun tz kz => castTop (ef12_RI m b467 ((1 : Int32))) kz) ?_)
  show Goes p e below (s₁.setTop (mkF m 0 #[rv b467, iv 1, .unset] [])) _
  refine Goes.by (fun _ kz => XS.aloadN X0.here hx rfl (hb hby d12_0) rfl rfl kz) ?_
  obtain ⟨T589, X589, e589, st589⟩ := getF X0 hx hZ hown (host := "") (Or.inl (hw _ (List.mem_of_getElem? (i := 93) rfl))) Via.refl e0 u587_9 (g := (mkF m 1 #[rv b467, iv 1, .unset] [(.ref b467)])) rfl rfl (hb hby d12_1)
  refine Goes.by st589 ?_
  refine Goes.by (fun _ kz => XS.iloadN X589.here hx rfl (hb hby d12_4) rfl (XS.icmpYes X589.here hx rfl (pc0 := 5) (pc' := 12) rfl (hb hby d12_5) rfl (teq (by decide : (1 : Int32) = (1 : Int32))).1 (by decide) (by decide) (XS.iconst X589.here hx rfl (hb hby d12_12) kz))) ?_
  show Goes p e below (T589.setTop (mkF m 13 #[rv b467, iv 1, .unset] [(.int 0)])) _
  refine Goes.by (fun _ kz => XS.istoreN X589.here hx rfl (hb hby d12_13) rfl (l' := #[rv b467, iv 1, iv 0]) rfl (XS.aloadN X589.here hx rfl (hb hby d12_14) rfl rfl (XS.iloadN X589.here hx rfl (hb hby d12_15) rfl kz))) ?_
  obtain ⟨T590, h590, X590, e590, W590, st590⟩ := putFN X589 hx hZ hown (hw _ (List.mem_of_getElem? (i := 93) rfl)) Via.refl e589 u587_9 u587_2 (Or.inl (hw _ (List.mem_of_getElem? (i := 94) rfl))) (hw _ (List.mem_of_getElem? (i := 1) rfl)) (ty := .boolean) (v' := (.int 1)) (by decide) rfl rfl (g := (mkF m 16 #[rv b467, iv 1, iv 0] [(.int 1), (.ref b467)])) rfl rfl (hb hby d12_16)
  have Fw590 := Fld.same W590 u587_9
  have K590 : Keep h0 h590 [b467] := Keep.wr (Keep.refl h0 [b467]) W590 (Or.inl (List.mem_of_getElem? (i := 0) rfl))
  have Z590 : n0 ≤ h590.size := Nat.le_trans Z0 (Keep.of_wr W590).1
  have N590 := Fr.snoc X590 N0 g_b467
  refine Goes.by st590 ?_
  refine Goes.by (fun _ kz => XS.iloadN X590.here hx rfl (hb hby d12_19) rfl kz) ?_
  show Goes p e below (T590.setTop (mkF m 20 #[rv b467, iv 1, iv 0] [(.int 0)])) _
  have f591 := (Fld.other W590 u587_6 (Or.inr (slot_ne (Or.inr (hw _ (List.mem_of_getElem? (i := 34) rfl))) (Or.inl (hw _ (List.mem_of_getElem? (i := 94) rfl))) (by decide) (t := (.object "java/util/List")) (t' := .boolean) (by decide) (by decide))))
  have f592 := (Fld.other W590 u587_7 (Or.inr (slot_ne (Or.inr (hw _ (List.mem_of_getElem? (i := 79) rfl))) (Or.inl (hw _ (List.mem_of_getElem? (i := 94) rfl))) (by decide) (t := (.object "java/util/List")) (t' := .boolean) (by decide) (by decide))))
  have f593 := (Fld.other W590 u587_8 (Or.inr (slot_ne (Or.inl (hw _ (List.mem_of_getElem? (i := 87) rfl))) (Or.inl (hw _ (List.mem_of_getElem? (i := 94) rfl))) (by decide) (t := (.object "java/util/Set")) (t' := .boolean) (by decide) (by decide))))
  obtain ⟨fs, hr, hrun, hended, hW, hsame⟩ := X590.leave (v := some (.int 0)) (fun h => by rw [Bd.returns] at h; cases h)
  exact ⟨_, _, retN X590 hx (t := .boolean) Bd.returns (by simp) (hb hby d12_20) hr, hrun, hended, _, _, rfl, (by rw [show (T590.setFrames fs).heap = h590 from e590]; exact ⟨rfl, N590, K590, f591, f592, f593, Fw590⟩), ⟨_, rfl⟩, hW, hsame.mono (by decide) (by decide)⟩
def Q_r12_606 (Z : State) (q2 : Addr) (b467 : Addr) (b471_568 : Addr) (b503_522_568 : Addr) (h0 : Heap) (n0 : Nat) (v : Option Value) (h : Heap) (L : List Loc) : Prop := (v = some (.int 1) ∧ Fr n0 L ∧ Keep h0 h [b467] ∧ Fld Z h b467 "com/example/entail/entail/model/EntrySettings" "rules" "Ljava/util/List;" (.ref b471_568) ∧ Fld Z h b467 "com/example/entail/entail/model/EntrySettings" "rulesView" "Ljava/util/List;" (.ref b503_522_568) ∧ Fld Z h b467 "com/example/entail/entail/model/EntrySettings" "blockedTrusteesView" "Ljava/util/Set;" (.ref q2) ∧ Fld Z h b467 "com/example/entail/entail/model/EntrySettings" "blocks" "Z" (.int 1))
set_option maxRecDepth 65536 in
set_option maxHeartbeats 40000000 in
theorem r12_606 (l : Launch) (Z : State) (a0 : Array Value) (hw : ∀ d ∈ tables_1, d.before a0 Z = true) (ws : List Jvm.Cond) (h0 : Heap) (n0 : Nat) (Z0 : n0 ≤ h0.size) (q2 : Addr) (b467 : Addr) (b471_568 : Addr) (b503_522_568 : Addr) (u607_2 : Exa Z h0 b467 "com/example/entail/entail/model/EntrySettings") (u607_3 : Fld Z h0 b467 "com/example/entail/entail/model/EntrySettings" "rules" "Ljava/util/List;" (.ref b471_568)) (u607_4 : Fld Z h0 b467 "com/example/entail/entail/model/EntrySettings" "rulesView" "Ljava/util/List;" (.ref b503_522_568)) (u607_5 : Fld Z h0 b467 "com/example/entail/entail/model/EntrySettings" "blockedTrusteesView" "Ljava/util/Set;" (.ref q2)) (u607_6 : Fld Z h0 b467 "com/example/entail/entail/model/EntrySettings" "blocks" "Z" (.int 0)) (g_b467 : n0 ≤ b467) :
    MetFree l (⟨"com/example/entail/entail/model/EntrySettings", "setBlocks", "(Z)Z"⟩ : MethodName) (head1 (Jvm.Cond.code (⟨"com/example/entail/entail/model/EntrySettings", "setBlocks", "(Z)Z"⟩ : MethodName) prog_7_method_7_code 3 (some .boolean) :: ws) ({ frames := 0, cells := 0, slots := 0, locals := 0 } : Room)) (fun a U => a = #[(.ref b467), (.int 1)] ∧ Z.Warmed39 U.vm ∧ U.heap = h0) (fun _ _ _ _ _ => True) (fun _ U o U' => ∃ v L, o = .returned v ∧ Q_r12_606 Z q2 b467 b471_568 b503_522_568 h0 n0 v U'.heap L ∧ FrameEnd U o U' L ({ frames := 0, cells := 0, slots := 0, locals := 0 } : Room).cells ({ frames := 0, cells := 0, slots := 0, locals := 0 } : Room).slots) := by
  refine MetFree.of_bodySF (plainFor_of_name pn8) hisR ?_
  intro p e s m args below meth c s₁ Bd hml0 hP hK
  obtain ⟨rfl, hZ, hh⟩ := hP
  have hx := Bd.exec
  have hby := Bd.bytes
  have hml : c.maxLocals = 3 := hml0
  have hown : s.vm.findClass "com/example/entail/entail/model/EntrySettings" = some m.cls := findClass_of_methodNamed Bd.named
  have hnm := (name_of_methodNamed Bd.named Bd.method).1
  have X0 : Stand p l e ({ frames := 0, cells := 0, slots := 0, locals := 0 } : Room) s m #[(.ref b467), (.int 1)] below meth c s₁ [] 0 0 := Stand.of_body Bd
  have e0 : s₁.heap = h0 := by rw [← hh, Bd.state]; rfl
  have N0 := Fr.nil n0
  refine Goes.out (Goes.by (fun tz kz => castTop (ef12_RI m b467 ((1 : Int32))) kz) ?_)
  show Goes p e below (s₁.setTop (mkF m 0 #[rv b467, iv 1, .unset] [])) _
  refine Goes.by (fun _ kz => XS.aloadN X0.here hx rfl (hb hby d12_0) rfl rfl kz) ?_
  obtain ⟨T609, X609, e609, st609⟩ := getF X0 hx hZ hown (host := "") (Or.inl (hw _ (List.mem_of_getElem? (i := 93) rfl))) Via.refl e0 u607_6 (g := (mkF m 1 #[rv b467, iv 1, .unset] [(.ref b467)])) rfl rfl (hb hby d12_1)
  refine Goes.by st609 ?_
  refine Goes.by (fun _ kz => XS.iloadN X609.here hx rfl (hb hby d12_4) rfl (XS.icmpNo X609.here hx rfl (hb hby d12_5) rfl (feq (by decide : ¬ ((0 : Int32) = (1 : Int32)))).1 (XS.iconst X609.here hx rfl (hb hby d12_8) kz))) ?_
  show Goes p e below (T609.setTop (mkF m 9 #[rv b467, iv 1, .unset] [(.int 1)])) _
  refine Goes.by (fun _ kz => XS.goto X609.here hx rfl (pc0 := 9) (pc' := 13) rfl (hb hby d12_9) (by decide) (by decide) (XS.istoreN X609.here hx rfl (hb hby d12_13) rfl (l' := #[rv b467, iv 1, iv 1]) rfl (XS.aloadN X609.here hx rfl (hb hby d12_14) rfl rfl kz))) ?_
  show Goes p e below (T609.setTop (mkF m 15 #[rv b467, iv 1, iv 1] [(.ref b467)])) _
  refine Goes.by (fun _ kz => XS.iloadN X609.here hx rfl (hb hby d12_15) rfl kz) ?_
  obtain ⟨T610, h610, X610, e610, W610, st610⟩ := putFN X609 hx hZ hown (hw _ (List.mem_of_getElem? (i := 93) rfl)) Via.refl e609 u607_6 u607_2 (Or.inl (hw _ (List.mem_of_getElem? (i := 94) rfl))) (hw _ (List.mem_of_getElem? (i := 1) rfl)) (ty := .boolean) (v' := (.int 1)) (by decide) rfl rfl (g := (mkF m 16 #[rv b467, iv 1, iv 1] [(.int 1), (.ref b467)])) rfl rfl (hb hby d12_16)
  have Fw610 := Fld.same W610 u607_6
  have K610 : Keep h0 h610 [b467] := Keep.wr (Keep.refl h0 [b467]) W610 (Or.inl (List.mem_of_getElem? (i := 0) rfl))
  have Z610 : n0 ≤ h610.size := Nat.le_trans Z0 (Keep.of_wr W610).1
  have N610 := Fr.snoc X610 N0 g_b467
  refine Goes.by st610 ?_
  refine Goes.by (fun _ kz => XS.iloadN X610.here hx rfl (hb hby d12_19) rfl kz) ?_
  show Goes p e below (T610.setTop (mkF m 20 #[rv b467, iv 1, iv 1] [(.int 1)])) _
  have f611 := (Fld.other W610 u607_3 (Or.inr (slot_ne (Or.inr (hw _ (List.mem_of_getElem? (i := 34) rfl))) (Or.inl (hw _ (List.mem_of_getElem? (i := 94) rfl))) (by decide) (t := (.object "java/util/List")) (t' := .boolean) (by decide) (by decide))))
  have f612 := (Fld.other W610 u607_4 (Or.inr (slot_ne (Or.inr (hw _ (List.mem_of_getElem? (i := 79) rfl))) (Or.inl (hw _ (List.mem_of_getElem? (i := 94) rfl))) (by decide) (t := (.object "java/util/List")) (t' := .boolean) (by decide) (by decide))))
  have f613 := (Fld.other W610 u607_5 (Or.inr (slot_ne (Or.inl (hw _ (List.mem_of_getElem? (i := 87) rfl))) (Or.inl (hw _ (List.mem_of_getElem? (i := 94) rfl))) (by decide) (t := (.object "java/util/Set")) (t' := .boolean) (by decide) (by decide))))
  obtain ⟨fs, hr, hrun, hended, hW, hsame⟩ := X610.leave (v := some (.int 1)) (fun h => by rw [Bd.returns] at h; cases h)
  exact ⟨_, _, retN X610 hx (t := .boolean) Bd.returns (by simp) (hb hby d12_20) hr, hrun, hended, _, _, rfl, (by rw [show (T610.setFrames fs).heap = h610 from e610]; exact ⟨rfl, N610, K610, f611, f612, f613, Fw610⟩), ⟨_, rfl⟩, hW, hsame.mono (by decide) (by decide)⟩
def Q_r12_616 (Z : State) (q2 : Addr) (b467 : Addr) (b471_568 : Addr) (b503_522_568 : Addr) (h0 : Heap) (n0 : Nat) (v : Option Value) (h : Heap) (L : List Loc) : Prop := (v = some (.int 0) ∧ Fr n0 L ∧ Keep h0 h [b467] ∧ Fld Z h b467 "com/example/entail/entail/model/EntrySettings" "rules" "Ljava/util/List;" (.ref b471_568) ∧ Fld Z h b467 "com/example/entail/entail/model/EntrySettings" "rulesView" "Ljava/util/List;" (.ref b503_522_568) ∧ Fld Z h b467 "com/example/entail/entail/model/EntrySettings" "blockedTrusteesView" "Ljava/util/Set;" (.ref q2) ∧ Fld Z h b467 "com/example/entail/entail/model/EntrySettings" "blocks" "Z" (.int 1))
set_option maxRecDepth 65536 in
set_option maxHeartbeats 40000000 in
theorem r12_616 (l : Launch) (Z : State) (a0 : Array Value) (hw : ∀ d ∈ tables_1, d.before a0 Z = true) (ws : List Jvm.Cond) (h0 : Heap) (n0 : Nat) (Z0 : n0 ≤ h0.size) (q2 : Addr) (b467 : Addr) (b471_568 : Addr) (b503_522_568 : Addr) (u617_2 : Exa Z h0 b467 "com/example/entail/entail/model/EntrySettings") (u617_9 : Fld Z h0 b467 "com/example/entail/entail/model/EntrySettings" "rules" "Ljava/util/List;" (.ref b471_568)) (u617_10 : Fld Z h0 b467 "com/example/entail/entail/model/EntrySettings" "rulesView" "Ljava/util/List;" (.ref b503_522_568)) (u617_11 : Fld Z h0 b467 "com/example/entail/entail/model/EntrySettings" "blockedTrusteesView" "Ljava/util/Set;" (.ref q2)) (u617_12 : Fld Z h0 b467 "com/example/entail/entail/model/EntrySettings" "blocks" "Z" (.int 1)) (g_b467 : n0 ≤ b467) :
    MetFree l (⟨"com/example/entail/entail/model/EntrySettings", "setBlocks", "(Z)Z"⟩ : MethodName) (head1 (Jvm.Cond.code (⟨"com/example/entail/entail/model/EntrySettings", "setBlocks", "(Z)Z"⟩ : MethodName) prog_7_method_7_code 3 (some .boolean) :: ws) ({ frames := 0, cells := 0, slots := 0, locals := 0 } : Room)) (fun a U => a = #[(.ref b467), (.int 1)] ∧ Z.Warmed39 U.vm ∧ U.heap = h0) (fun _ _ _ _ _ => True) (fun _ U o U' => ∃ v L, o = .returned v ∧ Q_r12_616 Z q2 b467 b471_568 b503_522_568 h0 n0 v U'.heap L ∧ FrameEnd U o U' L ({ frames := 0, cells := 0, slots := 0, locals := 0 } : Room).cells ({ frames := 0, cells := 0, slots := 0, locals := 0 } : Room).slots) := by
  refine MetFree.of_bodySF (plainFor_of_name pn8) hisR ?_
  intro p e s m args below meth c s₁ Bd hml0 hP hK
  obtain ⟨rfl, hZ, hh⟩ := hP
  have hx := Bd.exec
  have hby := Bd.bytes
  have hml : c.maxLocals = 3 := hml0
  have hown : s.vm.findClass "com/example/entail/entail/model/EntrySettings" = some m.cls := findClass_of_methodNamed Bd.named
  have hnm := (name_of_methodNamed Bd.named Bd.method).1
  have X0 : Stand p l e ({ frames := 0, cells := 0, slots := 0, locals := 0 } : Room) s m #[(.ref b467), (.int 1)] below meth c s₁ [] 0 0 := Stand.of_body Bd
  have e0 : s₁.heap = h0 := by rw [← hh, Bd.state]; rfl
  have N0 := Fr.nil n0
  refine Goes.out (Goes.by (fun tz kz => castTop (ef12_RI m b467 ((1 : Int32))) kz) ?_)
  show Goes p e below (s₁.setTop (mkF m 0 #[rv b467, iv 1, .unset] [])) _
  refine Goes.by (fun _ kz => XS.aloadN X0.here hx rfl (hb hby d12_0) rfl rfl kz) ?_
  obtain ⟨T619, X619, e619, st619⟩ := getF X0 hx hZ hown (host := "") (Or.inl (hw _ (List.mem_of_getElem? (i := 93) rfl))) Via.refl e0 u617_12 (g := (mkF m 1 #[rv b467, iv 1, .unset] [(.ref b467)])) rfl rfl (hb hby d12_1)
  refine Goes.by st619 ?_
  refine Goes.by (fun _ kz => XS.iloadN X619.here hx rfl (hb hby d12_4) rfl (XS.icmpYes X619.here hx rfl (pc0 := 5) (pc' := 12) rfl (hb hby d12_5) rfl (teq (by decide : (1 : Int32) = (1 : Int32))).1 (by decide) (by decide) (XS.iconst X619.here hx rfl (hb hby d12_12) kz))) ?_
  show Goes p e below (T619.setTop (mkF m 13 #[rv b467, iv 1, .unset] [(.int 0)])) _
  refine Goes.by (fun _ kz => XS.istoreN X619.here hx rfl (hb hby d12_13) rfl (l' := #[rv b467, iv 1, iv 0]) rfl (XS.aloadN X619.here hx rfl (hb hby d12_14) rfl rfl (XS.iloadN X619.here hx rfl (hb hby d12_15) rfl kz))) ?_
  obtain ⟨T620, h620, X620, e620, W620, st620⟩ := putFN X619 hx hZ hown (hw _ (List.mem_of_getElem? (i := 93) rfl)) Via.refl e619 u617_12 u617_2 (Or.inl (hw _ (List.mem_of_getElem? (i := 94) rfl))) (hw _ (List.mem_of_getElem? (i := 1) rfl)) (ty := .boolean) (v' := (.int 1)) (by decide) rfl rfl (g := (mkF m 16 #[rv b467, iv 1, iv 0] [(.int 1), (.ref b467)])) rfl rfl (hb hby d12_16)
  have Fw620 := Fld.same W620 u617_12
  have K620 : Keep h0 h620 [b467] := Keep.wr (Keep.refl h0 [b467]) W620 (Or.inl (List.mem_of_getElem? (i := 0) rfl))
  have Z620 : n0 ≤ h620.size := Nat.le_trans Z0 (Keep.of_wr W620).1
  have N620 := Fr.snoc X620 N0 g_b467
  refine Goes.by st620 ?_
  refine Goes.by (fun _ kz => XS.iloadN X620.here hx rfl (hb hby d12_19) rfl kz) ?_
  show Goes p e below (T620.setTop (mkF m 20 #[rv b467, iv 1, iv 0] [(.int 0)])) _
  have f621 := (Fld.other W620 u617_9 (Or.inr (slot_ne (Or.inr (hw _ (List.mem_of_getElem? (i := 34) rfl))) (Or.inl (hw _ (List.mem_of_getElem? (i := 94) rfl))) (by decide) (t := (.object "java/util/List")) (t' := .boolean) (by decide) (by decide))))
  have f622 := (Fld.other W620 u617_10 (Or.inr (slot_ne (Or.inr (hw _ (List.mem_of_getElem? (i := 79) rfl))) (Or.inl (hw _ (List.mem_of_getElem? (i := 94) rfl))) (by decide) (t := (.object "java/util/List")) (t' := .boolean) (by decide) (by decide))))
  have f623 := (Fld.other W620 u617_11 (Or.inr (slot_ne (Or.inl (hw _ (List.mem_of_getElem? (i := 87) rfl))) (Or.inl (hw _ (List.mem_of_getElem? (i := 94) rfl))) (by decide) (t := (.object "java/util/Set")) (t' := .boolean) (by decide) (by decide))))
  obtain ⟨fs, hr, hrun, hended, hW, hsame⟩ := X620.leave (v := some (.int 0)) (fun h => by rw [Bd.returns] at h; cases h)
  exact ⟨_, _, retN X620 hx (t := .boolean) Bd.returns (by simp) (hb hby d12_20) hr, hrun, hended, _, _, rfl, (by rw [show (T620.setFrames fs).heap = h620 from e620]; exact ⟨rfl, N620, K620, f621, f622, f623, Fw620⟩), ⟨_, rfl⟩, hW, hsame.mono (by decide) (by decide)⟩
set_option maxRecDepth 65536 in
set_option maxHeartbeats 40000000 in
theorem rm0 (l : Launch) (Z : State) (a0 : Array Value) (hw : ∀ d ∈ tables_1, d.before a0 Z = true) (ws : List Jvm.Cond) (h0 : Heap) (n0 : Nat) (Z0 : n0 ≤ h0.size) (p1 : Int32) (p2 : Int32) (mA mL mR q1 q2 : Addr) (MA : OwnMir Z "java/util/ArrayList" mA) (ML : OwnMir Z "java/util/Collections$UnmodifiableList" mL) (MR : OwnMir Z "java/util/Collections$UnmodifiableRandomAccessList" mR) (S1 : Sta Z h0 "java/util/ArrayList" "DEFAULTCAPACITY_EMPTY_ELEMENTDATA" "[Ljava/lang/Object;" (.ref q1)) (S2 : Sta Z h0 "java/util/ImmutableCollections" "EMPTY_SET" "Ljava/util/ImmutableCollections$SetN;" (.ref q2)) :
    MetFree l x (head1 (Jvm.Cond.code x code maxLocals ret :: ws) room_1) (fun a U => a = #[(.int p1), (.int p2)] ∧ Z.Warmed39 U.vm ∧ U.heap = h0) (fun _ _ _ _ _ => True) (fun _ U o U' => ∃ v L, o = .returned v ∧ QL n0 v U'.heap L ∧ FrameEnd U o U' L 3 10) := by
  refine MetFree.of_bodySF (plainFor_of_name pn9) hisR ?_
  intro p e s m args below meth c s₁ Bd hml0 hP hK
  obtain ⟨rfl, hZ, hh⟩ := hP
  have hx := Bd.exec
  have hby := Bd.bytes
  have hml : c.maxLocals = 11 := hml0
  have hown : s.vm.findClass "com/example/entail/entail/model/EntrySettingsSetBlocksPinLaw" = some m.cls := findClass_of_methodNamed Bd.named
  have hnm := (name_of_methodNamed Bd.named Bd.method).1
  have X0 : Stand p l e room_1 s m #[(.int p1), (.int p2)] below meth c s₁ [] 0 0 := Stand.of_body Bd
  have e0 : s₁.heap = h0 := by rw [← hh, Bd.state]; rfl
  have N0 := Fr.nil n0
  refine Goes.out (Goes.by (fun tz kz => castTop (ef0_II m p1 p2) kz) ?_)
  show Goes p e below (s₁.setTop (mkF m 0 #[iv p1, iv p2, .unset, .unset, .unset, .unset, .unset, .unset, .unset, .unset, .unset] [])) _
  refine Goes.by (fun _ kz => XS.iloadN X0.here hx rfl (hb hby at_0) rfl (XS.iconst X0.here hx rfl (hb hby at_1) (XS.iand X0.here hx rfl (hb hby at_2) rfl kz))) ?_
  show Goes p e below (s₁.setTop (mkF m 3 #[iv p1, iv p2, .unset, .unset, .unset, .unset, .unset, .unset, .unset, .unset, .unset] [(.int (p1 &&& (1 : Int32)))])) _
  rcases own_f p1 with hqp1 | hqp1
  · rw [hqp1]
    show Goes p e below (s₁.setTop (mkF m 3 #[iv p1, iv p2, .unset, .unset, .unset, .unset, .unset, .unset, .unset, .unset, .unset] [(.int 0)])) _
    refine Goes.by (fun _ kz => XS.ifYes X0.here hx rfl (pc0 := 3) (pc' := 10) rfl (hb hby at_3) rfl ((if0 _ _).trans (teq (by decide : (0 : Int32) = (0 : Int32))).1) (by decide) (by decide) (XS.iconst X0.here hx rfl (hb hby at_10) (XS.istoreN X0.here hx rfl (hb hby at_11) rfl (l' := #[iv p1, iv p2, iv 0, .unset, .unset, .unset, .unset, .unset, .unset, .unset, .unset]) rfl kz))) ?_
    show Goes p e below (s₁.setTop (mkF m 12 #[iv p1, iv p2, iv 0, .unset, .unset, .unset, .unset, .unset, .unset, .unset, .unset] [])) _
    refine Goes.by (fun _ kz => XS.iloadN X0.here hx rfl (hb hby at_12) rfl (XS.iconst X0.here hx rfl (hb hby at_13) (XS.iand X0.here hx rfl (hb hby at_14) rfl kz))) ?_
    show Goes p e below (s₁.setTop (mkF m 15 #[iv p1, iv p2, iv 0, .unset, .unset, .unset, .unset, .unset, .unset, .unset, .unset] [(.int (p2 &&& (1 : Int32)))])) _
    rcases own_f p2 with hqp2 | hqp2
    · rw [hqp2]
      show Goes p e below (s₁.setTop (mkF m 15 #[iv p1, iv p2, iv 0, .unset, .unset, .unset, .unset, .unset, .unset, .unset, .unset] [(.int 0)])) _
      refine Goes.by (fun _ kz => XS.ifYes X0.here hx rfl (pc0 := 15) (pc' := 22) rfl (hb hby at_15) rfl ((if0 _ _).trans (teq (by decide : (0 : Int32) = (0 : Int32))).1) (by decide) (by decide) (XS.iconst X0.here hx rfl (hb hby at_22) (XS.istoreN X0.here hx rfl (hb hby at_23) rfl (l' := #[iv p1, iv p2, iv 0, iv 0, .unset, .unset, .unset, .unset, .unset, .unset, .unset]) rfl kz))) ?_
      obtain ⟨T1, h1, X1, e1, E1, A1, D1, -, st1⟩ := newO X0 hx hZ hown (hw _ (List.mem_of_getElem? (i := 0) rfl)) (hw _ (List.mem_of_getElem? (i := 1) rfl)) (hw _ (List.mem_of_getElem? (i := 2) rfl)) e0 (g := (mkF m 24 #[iv p1, iv p2, iv 0, iv 0, .unset, .unset, .unset, .unset, .unset, .unset, .unset] [])) rfl (hb hby at_24) (by decide) (by decide)
      obtain ⟨b1, g1⟩ : ∃ z, z = h0.size := ⟨_, rfl⟩
      rw [← g1] at A1 D1 st1
      have g_b1 : n0 ≤ b1 := Nat.le_trans Z0 (Nat.le_of_eq g1.symm)
      have sz_b1 : h0.size ≤ b1 := Nat.le_of_eq g1.symm
      have F1_rules : Fld Z h1 b1 "com/example/entail/entail/model/EntrySettings" "rules" "Ljava/util/List;" .null := D1 (Or.inr (hw _ (List.mem_of_getElem? (i := 34) rfl))) (ty := (.object "java/util/List")) (by decide)
      have F1_rulesView : Fld Z h1 b1 "com/example/entail/entail/model/EntrySettings" "rulesView" "Ljava/util/List;" .null := D1 (Or.inr (hw _ (List.mem_of_getElem? (i := 79) rfl))) (ty := (.object "java/util/List")) (by decide)
      have F1_blockedTrusteesView : Fld Z h1 b1 "com/example/entail/entail/model/EntrySettings" "blockedTrusteesView" "Ljava/util/Set;" .null := D1 (Or.inl (hw _ (List.mem_of_getElem? (i := 87) rfl))) (ty := (.object "java/util/Set")) (by decide)
      have F1_blocks : Fld Z h1 b1 "com/example/entail/entail/model/EntrySettings" "blocks" "Z" (.int 0) := D1 (Or.inl (hw _ (List.mem_of_getElem? (i := 94) rfl))) (ty := .boolean) (by decide)
      have K1 : Keep h0 h1 [] := Keep.ext (Keep.refl h0 []) E1
      have Z1 : n0 ≤ h1.size := Nat.le_trans Z0 E1.1
      refine Goes.by st1 ?_
      refine Goes.by (fun _ kz => XS.dup X1.here hx rfl (hb hby at_27) rfl rfl kz) ?_
      have f103 := (S1.ext E1)
      have f104 := (S2.ext E1)
      obtain ⟨_, _, ⟨T105, L105, k105, n105⟩, -, X105, ⟨Lc105, hQ105, l105, y105, z105⟩, st105⟩ := X1.specialBack hx (y := (⟨"com/example/entail/entail/model/EntrySettings", "<init>", "()V"⟩ : MethodName)) rfl hown (mvT hZ (hw _ (List.mem_of_getElem? (i := 3) rfl))) (mvT hZ (hw _ (List.mem_of_getElem? (i := 4) rfl))) (mvT hZ (hw _ (List.mem_of_getElem? (i := 5) rfl))) (by decide) (backOf (W := 1) (r1_1 l Z a0 hw [] h1 n0 Z1 mA mL mR q1 q2 b1 f103 f104 A1 F1_rules F1_rulesView F1_blockedTrusteesView F1_blocks MA ML MR g_b1) hZ (hw _ (List.mem_of_getElem? (i := 5) rfl)) (hw _ (List.mem_of_getElem? (i := 2) rfl)) (by decide) (by decide)) (g := (mkF m 28 #[iv p1, iv p2, iv 0, iv 0, .unset, .unset, .unset, .unset, .unset, .unset, .unset] [(.ref b1), (.ref b1)])) rfl (by rw [hml]; rfl) (Steps.refl _) (a := b1) (argsL := []) (rest := [(.ref b1)]) (lenOf pd0 rfl) rfl (by show 2 * 0 + _ ≤ _; exact Nat.le_of_eq rfl) (hb hby at_28) (fun _ _ => ⟨rfl, e1, (by decide : 1 + 2 ≤ _), (by decide : 5 + 5 ≤ _)⟩)
      dsimp only [Pt.U, Pt.locs, Pt.cells, Pt.slots] at X105 l105 y105 z105 st105 hQ105
      subst l105 y105 z105
      rcases hQ105 with hQ105 | hQ105 | hQ105
      · obtain ⟨b5_105, rfl, Nq105, Kq105, sq105_b5, fq105_0, fq105_1, fq105_2, fq105_3, fq105_4, fq105_5, fq105_6, hc105_56_32⟩ := hQ105
        have K105 : Keep h0 T105.heap [] := Keep.trans K1 Kq105 (allS (Or.inr sz_b1) all0)
        have Z105 : n0 ≤ T105.heap.size := Nat.le_trans Z1 Kq105.1
        have ne105_b5_b1 : b1 ≠ b5_105 := Nat.ne_of_lt (Nat.lt_of_lt_of_le A1.lt sq105_b5)
        have g_b5_105 : n0 ≤ b5_105 := Nat.le_trans Z1 sq105_b5
        have sz_b5_105 : h0.size ≤ b5_105 := Nat.le_trans K1.1 sq105_b5
        have N105 := Fr.app N0 Nq105
        refine Goes.tr st105 ?_
        refine Goes.by (fun _ kz => XS.astore X105.here hx rfl (hb hby at_31) rfl rfl (l' := #[iv p1, iv p2, iv 0, iv 0, rv b1, .unset, .unset, .unset, .unset, .unset, .unset]) rfl (XS.aload X105.here hx rfl (hb hby at_33) rfl rfl kz)) ?_
        have f110 := (A1.keep Kq105)
        obtain ⟨cq109, kq109, q109a, q109b, q109c⟩ := isOf hZ rfl f110
        obtain ⟨_, _, ⟨T109, L109, k109, n109⟩, -, X109, ⟨Lc109, hQ109, l109, y109, z109⟩, st109⟩ := X105.virtualBack hx (y := (⟨"com/example/entail/entail/model/EntrySettings", "blocks", "()Z"⟩ : MethodName)) (z := (⟨"com/example/entail/entail/model/EntrySettings", "blocks", "()Z"⟩ : MethodName)) hown (mvT hZ (hw _ (List.mem_of_getElem? (i := 88) rfl))) (mvT hZ (hw _ (List.mem_of_getElem? (i := 89) rfl))) (notFace_of_selects (args := #[]) (mvT hZ (hw _ (List.mem_of_getElem? (i := 91) rfl)))) (mvT hZ (hw _ (List.mem_of_getElem? (i := 91) rfl))) (mvT hZ (hw _ (List.mem_of_getElem? (i := 90) rfl))) (by decide) (backOf (W := 0) (r11_105 l Z a0 hw [] T105.heap n0 Z105 b1 fq105_3) hZ (hw _ (List.mem_of_getElem? (i := 92) rfl)) (hw _ (List.mem_of_getElem? (i := 2) rfl)) (by decide) (by decide)) q109a q109c (g := (mkF m 35 #[iv p1, iv p2, iv 0, iv 0, rv b1, .unset, .unset, .unset, .unset, .unset, .unset] [(.ref b1)])) rfl (by rw [hml]; rfl) (Steps.refl _) (argsL := []) (rest := []) (lenOf pd5 rfl) rfl (by show 2 * 0 + _ ≤ _; exact Nat.le_of_eq rfl) (hb hby at_35) (fun _ _ => ⟨rfl, rfl, (by decide : 3 + 0 ≤ _), (by decide : 10 + 0 ≤ _)⟩)
        dsimp only [Pt.U, Pt.locs, Pt.cells, Pt.slots] at X109 l109 y109 z109 st109 hQ109
        subst l109 y109 z109
        obtain ⟨rfl, Nq109, e109⟩ := hQ109
        have N109 := Fr.app N105 Nq109
        refine Goes.tr st109 ?_
        refine Goes.by (fun _ kz => XS.istore X109.here hx rfl (hb hby at_38) rfl (l' := #[iv p1, iv p2, iv 0, iv 0, rv b1, iv 0, .unset, .unset, .unset, .unset, .unset]) rfl (XS.aload X109.here hx rfl (hb hby at_40) rfl rfl (XS.iloadN X109.here hx rfl (hb hby at_42) rfl kz))) ?_
        obtain ⟨cq118, kq118, q118a, q118b, q118c⟩ := isOf hZ e109 f110
        obtain ⟨_, _, ⟨T118, L118, k118, n118⟩, -, X118, ⟨Lc118, hQ118, l118, y118, z118⟩, st118⟩ := X109.virtualBack hx (y := (⟨"com/example/entail/entail/model/EntrySettings", "setBlocks", "(Z)Z"⟩ : MethodName)) (z := (⟨"com/example/entail/entail/model/EntrySettings", "setBlocks", "(Z)Z"⟩ : MethodName)) hown (mvT hZ (hw _ (List.mem_of_getElem? (i := 95) rfl))) (mvT hZ (hw _ (List.mem_of_getElem? (i := 96) rfl))) (notFace_of_selects (args := #[]) (mvT hZ (hw _ (List.mem_of_getElem? (i := 98) rfl)))) (mvT hZ (hw _ (List.mem_of_getElem? (i := 98) rfl))) (mvT hZ (hw _ (List.mem_of_getElem? (i := 97) rfl))) (by decide) (backOf (W := 0) (r12_110 l Z a0 hw [] T105.heap n0 Z105 q2 b1 b5_105 f110 fq105_0 fq105_1 fq105_2 fq105_3 g_b1) hZ (hw _ (List.mem_of_getElem? (i := 99) rfl)) (hw _ (List.mem_of_getElem? (i := 2) rfl)) (by decide) (by decide)) q118a q118c (g := (mkF m 43 #[iv p1, iv p2, iv 0, iv 0, rv b1, iv 0, .unset, .unset, .unset, .unset, .unset] [(.int 0), (.ref b1)])) rfl (by rw [hml]; rfl) (Steps.refl _) (argsL := [(.int 0)]) (rest := []) (lenOf pd6 rfl) rfl (by show 2 * 0 + _ ≤ _; exact Nat.le_of_eq rfl) (hb hby at_43) (fun _ _ => ⟨rfl, e109, (by decide : 3 + 0 ≤ _), (by decide : 10 + 0 ≤ _)⟩)
        dsimp only [Pt.U, Pt.locs, Pt.cells, Pt.slots] at X118 l118 y118 z118 st118 hQ118
        subst l118 y118 z118
        obtain ⟨rfl, Nq118, Kq118, fq118_0, fq118_1, fq118_2, fq118_3⟩ := hQ118
        have K118 : Keep h0 T118.heap [] := Keep.trans K105 Kq118 (allS (Or.inr sz_b1) all0)
        have Z118 : n0 ≤ T118.heap.size := Nat.le_trans Z105 Kq118.1
        have N118 := Fr.app N109 Nq118
        refine Goes.tr st118 ?_
        refine Goes.by (fun _ kz => XS.istore X118.here hx rfl (hb hby at_46) rfl (l' := #[iv p1, iv p2, iv 0, iv 0, rv b1, iv 0, iv 0, .unset, .unset, .unset, .unset]) rfl (XS.aload X118.here hx rfl (hb hby at_48) rfl rfl kz)) ?_
        have f120 := (f110.keep Kq118)
        obtain ⟨cq119, kq119, q119a, q119b, q119c⟩ := isOf hZ rfl f120
        obtain ⟨_, _, ⟨T119, L119, k119, n119⟩, -, X119, ⟨Lc119, hQ119, l119, y119, z119⟩, st119⟩ := X118.virtualBack hx (y := (⟨"com/example/entail/entail/model/EntrySettings", "blocks", "()Z"⟩ : MethodName)) (z := (⟨"com/example/entail/entail/model/EntrySettings", "blocks", "()Z"⟩ : MethodName)) hown (mvT hZ (hw _ (List.mem_of_getElem? (i := 88) rfl))) (mvT hZ (hw _ (List.mem_of_getElem? (i := 89) rfl))) (notFace_of_selects (args := #[]) (mvT hZ (hw _ (List.mem_of_getElem? (i := 91) rfl)))) (mvT hZ (hw _ (List.mem_of_getElem? (i := 91) rfl))) (mvT hZ (hw _ (List.mem_of_getElem? (i := 90) rfl))) (by decide) (backOf (W := 0) (r11_105 l Z a0 hw [] T118.heap n0 Z118 b1 fq118_3) hZ (hw _ (List.mem_of_getElem? (i := 92) rfl)) (hw _ (List.mem_of_getElem? (i := 2) rfl)) (by decide) (by decide)) q119a q119c (g := (mkF m 50 #[iv p1, iv p2, iv 0, iv 0, rv b1, iv 0, iv 0, .unset, .unset, .unset, .unset] [(.ref b1)])) rfl (by rw [hml]; rfl) (Steps.refl _) (argsL := []) (rest := []) (lenOf pd5 rfl) rfl (by show 2 * 0 + _ ≤ _; exact Nat.le_of_eq rfl) (hb hby at_50) (fun _ _ => ⟨rfl, rfl, (by decide : 3 + 0 ≤ _), (by decide : 10 + 0 ≤ _)⟩)
        dsimp only [Pt.U, Pt.locs, Pt.cells, Pt.slots] at X119 l119 y119 z119 st119 hQ119
        subst l119 y119 z119
        obtain ⟨rfl, Nq119, e119⟩ := hQ119
        have N119 := Fr.app N118 Nq119
        refine Goes.tr st119 ?_
        refine Goes.by (fun _ kz => XS.istore X119.here hx rfl (hb hby at_53) rfl (l' := #[iv p1, iv p2, iv 0, iv 0, rv b1, iv 0, iv 0, iv 0, .unset, .unset, .unset]) rfl (XS.aload X119.here hx rfl (hb hby at_55) rfl rfl (XS.iloadN X119.here hx rfl (hb hby at_57) rfl kz))) ?_
        obtain ⟨cq121, kq121, q121a, q121b, q121c⟩ := isOf hZ e119 f120
        obtain ⟨_, _, ⟨T121, L121, k121, n121⟩, -, X121, ⟨Lc121, hQ121, l121, y121, z121⟩, st121⟩ := X119.virtualBack hx (y := (⟨"com/example/entail/entail/model/EntrySettings", "setBlocks", "(Z)Z"⟩ : MethodName)) (z := (⟨"com/example/entail/entail/model/EntrySettings", "setBlocks", "(Z)Z"⟩ : MethodName)) hown (mvT hZ (hw _ (List.mem_of_getElem? (i := 95) rfl))) (mvT hZ (hw _ (List.mem_of_getElem? (i := 96) rfl))) (notFace_of_selects (args := #[]) (mvT hZ (hw _ (List.mem_of_getElem? (i := 98) rfl)))) (mvT hZ (hw _ (List.mem_of_getElem? (i := 98) rfl))) (mvT hZ (hw _ (List.mem_of_getElem? (i := 97) rfl))) (by decide) (backOf (W := 0) (r12_110 l Z a0 hw [] T118.heap n0 Z118 q2 b1 b5_105 f120 fq118_0 fq118_1 fq118_2 fq118_3 g_b1) hZ (hw _ (List.mem_of_getElem? (i := 99) rfl)) (hw _ (List.mem_of_getElem? (i := 2) rfl)) (by decide) (by decide)) q121a q121c (g := (mkF m 58 #[iv p1, iv p2, iv 0, iv 0, rv b1, iv 0, iv 0, iv 0, .unset, .unset, .unset] [(.int 0), (.ref b1)])) rfl (by rw [hml]; rfl) (Steps.refl _) (argsL := [(.int 0)]) (rest := []) (lenOf pd6 rfl) rfl (by show 2 * 0 + _ ≤ _; exact Nat.le_of_eq rfl) (hb hby at_58) (fun _ _ => ⟨rfl, e119, (by decide : 3 + 0 ≤ _), (by decide : 10 + 0 ≤ _)⟩)
        dsimp only [Pt.U, Pt.locs, Pt.cells, Pt.slots] at X121 l121 y121 z121 st121 hQ121
        subst l121 y121 z121
        obtain ⟨rfl, Nq121, Kq121, fq121_0, fq121_1, fq121_2, fq121_3⟩ := hQ121
        have K121 : Keep h0 T121.heap [] := Keep.trans K118 Kq121 (allS (Or.inr sz_b1) all0)
        have Z121 : n0 ≤ T121.heap.size := Nat.le_trans Z118 Kq121.1
        have N121 := Fr.app N119 Nq121
        refine Goes.tr st121 ?_
        refine Goes.by (fun _ kz => XS.istore X121.here hx rfl (hb hby at_61) rfl (l' := #[iv p1, iv p2, iv 0, iv 0, rv b1, iv 0, iv 0, iv 0, iv 0, .unset, .unset]) rfl (XS.aload X121.here hx rfl (hb hby at_63) rfl rfl kz)) ?_
        have f123 := (f120.keep Kq121)
        obtain ⟨cq122, kq122, q122a, q122b, q122c⟩ := isOf hZ rfl f123
        obtain ⟨_, _, ⟨T122, L122, k122, n122⟩, -, X122, ⟨Lc122, hQ122, l122, y122, z122⟩, st122⟩ := X121.virtualBack hx (y := (⟨"com/example/entail/entail/model/EntrySettings", "blocks", "()Z"⟩ : MethodName)) (z := (⟨"com/example/entail/entail/model/EntrySettings", "blocks", "()Z"⟩ : MethodName)) hown (mvT hZ (hw _ (List.mem_of_getElem? (i := 88) rfl))) (mvT hZ (hw _ (List.mem_of_getElem? (i := 89) rfl))) (notFace_of_selects (args := #[]) (mvT hZ (hw _ (List.mem_of_getElem? (i := 91) rfl)))) (mvT hZ (hw _ (List.mem_of_getElem? (i := 91) rfl))) (mvT hZ (hw _ (List.mem_of_getElem? (i := 90) rfl))) (by decide) (backOf (W := 0) (r11_105 l Z a0 hw [] T121.heap n0 Z121 b1 fq121_3) hZ (hw _ (List.mem_of_getElem? (i := 92) rfl)) (hw _ (List.mem_of_getElem? (i := 2) rfl)) (by decide) (by decide)) q122a q122c (g := (mkF m 65 #[iv p1, iv p2, iv 0, iv 0, rv b1, iv 0, iv 0, iv 0, iv 0, .unset, .unset] [(.ref b1)])) rfl (by rw [hml]; rfl) (Steps.refl _) (argsL := []) (rest := []) (lenOf pd5 rfl) rfl (by show 2 * 0 + _ ≤ _; exact Nat.le_of_eq rfl) (hb hby at_65) (fun _ _ => ⟨rfl, rfl, (by decide : 3 + 0 ≤ _), (by decide : 10 + 0 ≤ _)⟩)
        dsimp only [Pt.U, Pt.locs, Pt.cells, Pt.slots] at X122 l122 y122 z122 st122 hQ122
        subst l122 y122 z122
        obtain ⟨rfl, Nq122, e122⟩ := hQ122
        have N122 := Fr.app N121 Nq122
        refine Goes.tr st122 ?_
        refine Goes.by (fun _ kz => XS.istore X122.here hx rfl (hb hby at_68) rfl (l' := #[iv p1, iv p2, iv 0, iv 0, rv b1, iv 0, iv 0, iv 0, iv 0, iv 0, .unset]) rfl (XS.iload X122.here hx rfl (hb hby at_70) rfl (XS.ifNo X122.here hx rfl (hb hby at_72) rfl ((if0 _ _).trans (teq (by decide : (0 : Int32) = (0 : Int32))).2) kz))) ?_
        show Goes p e below (T122.setTop (mkF m 75 #[iv p1, iv p2, iv 0, iv 0, rv b1, iv 0, iv 0, iv 0, iv 0, iv 0, .unset] [])) _
        refine Goes.by (fun _ kz => XS.iconst X122.here hx rfl (hb hby at_75) (XS.goto X122.here hx rfl (pc0 := 76) (pc' := 80) rfl (hb hby at_76) (by decide) (by decide) (XS.istore X122.here hx rfl (hb hby at_80) rfl (l' := #[iv p1, iv p2, iv 0, iv 0, rv b1, iv 0, iv 0, iv 0, iv 0, iv 0, iv 1]) rfl kz))) ?_
        show Goes p e below (T122.setTop (mkF m 82 #[iv p1, iv p2, iv 0, iv 0, rv b1, iv 0, iv 0, iv 0, iv 0, iv 0, iv 1] [])) _
        refine Goes.by (fun _ kz => XS.iload X122.here hx rfl (hb hby at_82) rfl (XS.ifNo X122.here hx rfl (hb hby at_84) rfl ((if0 _ _).trans (feq (by decide : ¬ ((1 : Int32) = (0 : Int32)))).1) (XS.iload X122.here hx rfl (hb hby at_87) rfl kz))) ?_
        show Goes p e below (T122.setTop (mkF m 89 #[iv p1, iv p2, iv 0, iv 0, rv b1, iv 0, iv 0, iv 0, iv 0, iv 0, iv 1] [(.int 0)])) _
        refine Goes.by (fun _ kz => XS.iloadN X122.here hx rfl (hb hby at_89) rfl (XS.icmpNo X122.here hx rfl (hb hby at_90) rfl (teq (by decide : (0 : Int32) = (0 : Int32))).2 (XS.iconst X122.here hx rfl (hb hby at_93) kz))) ?_
        show Goes p e below (T122.setTop (mkF m 94 #[iv p1, iv p2, iv 0, iv 0, rv b1, iv 0, iv 0, iv 0, iv 0, iv 0, iv 1] [(.int 1)])) _
        refine Goes.by (fun _ kz => XS.goto X122.here hx rfl (pc0 := 94) (pc' := 98) rfl (hb hby at_94) (by decide) (by decide) (XS.istore X122.here hx rfl (hb hby at_98) rfl (l' := #[iv p1, iv p2, iv 0, iv 0, rv b1, iv 0, iv 0, iv 0, iv 0, iv 0, iv 1]) rfl (XS.iload X122.here hx rfl (hb hby at_100) rfl kz))) ?_
        show Goes p e below (T122.setTop (mkF m 102 #[iv p1, iv p2, iv 0, iv 0, rv b1, iv 0, iv 0, iv 0, iv 0, iv 0, iv 1] [(.int 1)])) _
        refine Goes.by (fun _ kz => XS.ifNo X122.here hx rfl (hb hby at_102) rfl ((if0 _ _).trans (feq (by decide : ¬ ((1 : Int32) = (0 : Int32)))).1) (XS.iload X122.here hx rfl (hb hby at_105) rfl (XS.iloadN X122.here hx rfl (hb hby at_107) rfl kz))) ?_
        show Goes p e below (T122.setTop (mkF m 108 #[iv p1, iv p2, iv 0, iv 0, rv b1, iv 0, iv 0, iv 0, iv 0, iv 0, iv 1] [(.int 0), (.int 0)])) _
        refine Goes.by (fun _ kz => XS.icmpNo X122.here hx rfl (hb hby at_108) rfl (teq (by decide : (0 : Int32) = (0 : Int32))).2 (XS.iconst X122.here hx rfl (hb hby at_111) (XS.goto X122.here hx rfl (pc0 := 112) (pc' := 116) rfl (hb hby at_112) (by decide) (by decide) kz))) ?_
        show Goes p e below (T122.setTop (mkF m 116 #[iv p1, iv p2, iv 0, iv 0, rv b1, iv 0, iv 0, iv 0, iv 0, iv 0, iv 1] [(.int 1)])) _
        refine Goes.by (fun _ kz => XS.istore X122.here hx rfl (hb hby at_116) rfl (l' := #[iv p1, iv p2, iv 0, iv 0, rv b1, iv 0, iv 0, iv 0, iv 0, iv 0, iv 1]) rfl (XS.iload X122.here hx rfl (hb hby at_118) rfl (XS.ifNo X122.here hx rfl (hb hby at_120) rfl ((if0 _ _).trans (feq (by decide : ¬ ((1 : Int32) = (0 : Int32)))).1) kz))) ?_
        show Goes p e below (T122.setTop (mkF m 123 #[iv p1, iv p2, iv 0, iv 0, rv b1, iv 0, iv 0, iv 0, iv 0, iv 0, iv 1] [])) _
        refine Goes.by (fun _ kz => XS.iload X122.here hx rfl (hb hby at_123) rfl (XS.iloadN X122.here hx rfl (hb hby at_125) rfl (XS.iloadN X122.here hx rfl (hb hby at_126) rfl kz))) ?_
        show Goes p e below (T122.setTop (mkF m 127 #[iv p1, iv p2, iv 0, iv 0, rv b1, iv 0, iv 0, iv 0, iv 0, iv 0, iv 1] [(.int 0), (.int 0), (.int 0)])) _
        refine Goes.by (fun _ kz => XS.icmpYes X122.here hx rfl (pc0 := 127) (pc' := 134) rfl (hb hby at_127) rfl (teq (by decide : (0 : Int32) = (0 : Int32))).1 (by decide) (by decide) (XS.iconst X122.here hx rfl (hb hby at_134) (XS.icmpNo X122.here hx rfl (hb hby at_135) rfl (teq (by decide : (0 : Int32) = (0 : Int32))).2 kz))) ?_
        show Goes p e below (T122.setTop (mkF m 138 #[iv p1, iv p2, iv 0, iv 0, rv b1, iv 0, iv 0, iv 0, iv 0, iv 0, iv 1] [])) _
        refine Goes.by (fun _ kz => XS.iconst X122.here hx rfl (hb hby at_138) (XS.goto X122.here hx rfl (pc0 := 139) (pc' := 143) rfl (hb hby at_139) (by decide) (by decide) (XS.istore X122.here hx rfl (hb hby at_143) rfl (l' := #[iv p1, iv p2, iv 0, iv 0, rv b1, iv 0, iv 0, iv 0, iv 0, iv 0, iv 1]) rfl kz))) ?_
        show Goes p e below (T122.setTop (mkF m 145 #[iv p1, iv p2, iv 0, iv 0, rv b1, iv 0, iv 0, iv 0, iv 0, iv 0, iv 1] [])) _
        refine Goes.by (fun _ kz => XS.iload X122.here hx rfl (hb hby at_145) rfl (XS.ifNo X122.here hx rfl (hb hby at_147) rfl ((if0 _ _).trans (feq (by decide : ¬ ((1 : Int32) = (0 : Int32)))).1) (XS.iload X122.here hx rfl (hb hby at_150) rfl kz))) ?_
        show Goes p e below (T122.setTop (mkF m 152 #[iv p1, iv p2, iv 0, iv 0, rv b1, iv 0, iv 0, iv 0, iv 0, iv 0, iv 1] [(.int 0)])) _
        refine Goes.by (fun _ kz => XS.iloadN X122.here hx rfl (hb hby at_152) rfl (XS.icmpNo X122.here hx rfl (hb hby at_153) rfl (teq (by decide : (0 : Int32) = (0 : Int32))).2 (XS.iconst X122.here hx rfl (hb hby at_156) kz))) ?_
        show Goes p e below (T122.setTop (mkF m 157 #[iv p1, iv p2, iv 0, iv 0, rv b1, iv 0, iv 0, iv 0, iv 0, iv 0, iv 1] [(.int 1)])) _
        refine Goes.by (fun _ kz => XS.goto X122.here hx rfl (pc0 := 157) (pc' := 161) rfl (hb hby at_157) (by decide) (by decide) (XS.istore X122.here hx rfl (hb hby at_161) rfl (l' := #[iv p1, iv p2, iv 0, iv 0, rv b1, iv 0, iv 0, iv 0, iv 0, iv 0, iv 1]) rfl (XS.iload X122.here hx rfl (hb hby at_163) rfl kz))) ?_
        show Goes p e below (T122.setTop (mkF m 165 #[iv p1, iv p2, iv 0, iv 0, rv b1, iv 0, iv 0, iv 0, iv 0, iv 0, iv 1] [(.int 1)])) _
        obtain ⟨fs, hr, hrun, hended, hW, hsame⟩ := X122.leave (v := some (.int 1)) (fun h => by rw [Bd.returns] at h; cases h)
        exact ⟨_, _, retN X122 hx (t := .boolean) Bd.returns (by simp) (hb hby at_165) hr, hrun, hended, _, _, rfl, ⟨rfl, N122⟩, ⟨_, rfl⟩, hW, hsame.mono (by decide) (by decide)⟩
      · obtain ⟨b5_105, rfl, Nq105, Kq105, sq105_b5, fq105_0, fq105_1, fq105_2, fq105_3, fq105_4, fq105_5, fq105_6, hc105_56_32, hc105_56_35⟩ := hQ105
        have K105 : Keep h0 T105.heap [] := Keep.trans K1 Kq105 (allS (Or.inr sz_b1) all0)
        have Z105 : n0 ≤ T105.heap.size := Nat.le_trans Z1 Kq105.1
        have ne105_b5_b1 : b1 ≠ b5_105 := Nat.ne_of_lt (Nat.lt_of_lt_of_le A1.lt sq105_b5)
        have g_b5_105 : n0 ≤ b5_105 := Nat.le_trans Z1 sq105_b5
        have sz_b5_105 : h0.size ≤ b5_105 := Nat.le_trans K1.1 sq105_b5
        have N105 := Fr.app N0 Nq105
        refine Goes.tr st105 ?_
        refine Goes.by (fun _ kz => XS.astore X105.here hx rfl (hb hby at_31) rfl rfl (l' := #[iv p1, iv p2, iv 0, iv 0, rv b1, .unset, .unset, .unset, .unset, .unset, .unset]) rfl (XS.aload X105.here hx rfl (hb hby at_33) rfl rfl kz)) ?_
        have f125 := (A1.keep Kq105)
        obtain ⟨cq124, kq124, q124a, q124b, q124c⟩ := isOf hZ rfl f125
        obtain ⟨_, _, ⟨T124, L124, k124, n124⟩, -, X124, ⟨Lc124, hQ124, l124, y124, z124⟩, st124⟩ := X105.virtualBack hx (y := (⟨"com/example/entail/entail/model/EntrySettings", "blocks", "()Z"⟩ : MethodName)) (z := (⟨"com/example/entail/entail/model/EntrySettings", "blocks", "()Z"⟩ : MethodName)) hown (mvT hZ (hw _ (List.mem_of_getElem? (i := 88) rfl))) (mvT hZ (hw _ (List.mem_of_getElem? (i := 89) rfl))) (notFace_of_selects (args := #[]) (mvT hZ (hw _ (List.mem_of_getElem? (i := 91) rfl)))) (mvT hZ (hw _ (List.mem_of_getElem? (i := 91) rfl))) (mvT hZ (hw _ (List.mem_of_getElem? (i := 90) rfl))) (by decide) (backOf (W := 0) (r11_105 l Z a0 hw [] T105.heap n0 Z105 b1 fq105_3) hZ (hw _ (List.mem_of_getElem? (i := 92) rfl)) (hw _ (List.mem_of_getElem? (i := 2) rfl)) (by decide) (by decide)) q124a q124c (g := (mkF m 35 #[iv p1, iv p2, iv 0, iv 0, rv b1, .unset, .unset, .unset, .unset, .unset, .unset] [(.ref b1)])) rfl (by rw [hml]; rfl) (Steps.refl _) (argsL := []) (rest := []) (lenOf pd5 rfl) rfl (by show 2 * 0 + _ ≤ _; exact Nat.le_of_eq rfl) (hb hby at_35) (fun _ _ => ⟨rfl, rfl, (by decide : 3 + 0 ≤ _), (by decide : 10 + 0 ≤ _)⟩)
        dsimp only [Pt.U, Pt.locs, Pt.cells, Pt.slots] at X124 l124 y124 z124 st124 hQ124
        subst l124 y124 z124
        obtain ⟨rfl, Nq124, e124⟩ := hQ124
        have N124 := Fr.app N105 Nq124
        refine Goes.tr st124 ?_
        refine Goes.by (fun _ kz => XS.istore X124.here hx rfl (hb hby at_38) rfl (l' := #[iv p1, iv p2, iv 0, iv 0, rv b1, iv 0, .unset, .unset, .unset, .unset, .unset]) rfl (XS.aload X124.here hx rfl (hb hby at_40) rfl rfl (XS.iloadN X124.here hx rfl (hb hby at_42) rfl kz))) ?_
        obtain ⟨cq126, kq126, q126a, q126b, q126c⟩ := isOf hZ e124 f125
        obtain ⟨_, _, ⟨T126, L126, k126, n126⟩, -, X126, ⟨Lc126, hQ126, l126, y126, z126⟩, st126⟩ := X124.virtualBack hx (y := (⟨"com/example/entail/entail/model/EntrySettings", "setBlocks", "(Z)Z"⟩ : MethodName)) (z := (⟨"com/example/entail/entail/model/EntrySettings", "setBlocks", "(Z)Z"⟩ : MethodName)) hown (mvT hZ (hw _ (List.mem_of_getElem? (i := 95) rfl))) (mvT hZ (hw _ (List.mem_of_getElem? (i := 96) rfl))) (notFace_of_selects (args := #[]) (mvT hZ (hw _ (List.mem_of_getElem? (i := 98) rfl)))) (mvT hZ (hw _ (List.mem_of_getElem? (i := 98) rfl))) (mvT hZ (hw _ (List.mem_of_getElem? (i := 97) rfl))) (by decide) (backOf (W := 0) (r12_110 l Z a0 hw [] T105.heap n0 Z105 q2 b1 b5_105 f125 fq105_0 fq105_1 fq105_2 fq105_3 g_b1) hZ (hw _ (List.mem_of_getElem? (i := 99) rfl)) (hw _ (List.mem_of_getElem? (i := 2) rfl)) (by decide) (by decide)) q126a q126c (g := (mkF m 43 #[iv p1, iv p2, iv 0, iv 0, rv b1, iv 0, .unset, .unset, .unset, .unset, .unset] [(.int 0), (.ref b1)])) rfl (by rw [hml]; rfl) (Steps.refl _) (argsL := [(.int 0)]) (rest := []) (lenOf pd6 rfl) rfl (by show 2 * 0 + _ ≤ _; exact Nat.le_of_eq rfl) (hb hby at_43) (fun _ _ => ⟨rfl, e124, (by decide : 3 + 0 ≤ _), (by decide : 10 + 0 ≤ _)⟩)
        dsimp only [Pt.U, Pt.locs, Pt.cells, Pt.slots] at X126 l126 y126 z126 st126 hQ126
        subst l126 y126 z126
        obtain ⟨rfl, Nq126, Kq126, fq126_0, fq126_1, fq126_2, fq126_3⟩ := hQ126
        have K126 : Keep h0 T126.heap [] := Keep.trans K105 Kq126 (allS (Or.inr sz_b1) all0)
        have Z126 : n0 ≤ T126.heap.size := Nat.le_trans Z105 Kq126.1
        have N126 := Fr.app N124 Nq126
        refine Goes.tr st126 ?_
        refine Goes.by (fun _ kz => XS.istore X126.here hx rfl (hb hby at_46) rfl (l' := #[iv p1, iv p2, iv 0, iv 0, rv b1, iv 0, iv 0, .unset, .unset, .unset, .unset]) rfl (XS.aload X126.here hx rfl (hb hby at_48) rfl rfl kz)) ?_
        have f128 := (f125.keep Kq126)
        obtain ⟨cq127, kq127, q127a, q127b, q127c⟩ := isOf hZ rfl f128
        obtain ⟨_, _, ⟨T127, L127, k127, n127⟩, -, X127, ⟨Lc127, hQ127, l127, y127, z127⟩, st127⟩ := X126.virtualBack hx (y := (⟨"com/example/entail/entail/model/EntrySettings", "blocks", "()Z"⟩ : MethodName)) (z := (⟨"com/example/entail/entail/model/EntrySettings", "blocks", "()Z"⟩ : MethodName)) hown (mvT hZ (hw _ (List.mem_of_getElem? (i := 88) rfl))) (mvT hZ (hw _ (List.mem_of_getElem? (i := 89) rfl))) (notFace_of_selects (args := #[]) (mvT hZ (hw _ (List.mem_of_getElem? (i := 91) rfl)))) (mvT hZ (hw _ (List.mem_of_getElem? (i := 91) rfl))) (mvT hZ (hw _ (List.mem_of_getElem? (i := 90) rfl))) (by decide) (backOf (W := 0) (r11_105 l Z a0 hw [] T126.heap n0 Z126 b1 fq126_3) hZ (hw _ (List.mem_of_getElem? (i := 92) rfl)) (hw _ (List.mem_of_getElem? (i := 2) rfl)) (by decide) (by decide)) q127a q127c (g := (mkF m 50 #[iv p1, iv p2, iv 0, iv 0, rv b1, iv 0, iv 0, .unset, .unset, .unset, .unset] [(.ref b1)])) rfl (by rw [hml]; rfl) (Steps.refl _) (argsL := []) (rest := []) (lenOf pd5 rfl) rfl (by show 2 * 0 + _ ≤ _; exact Nat.le_of_eq rfl) (hb hby at_50) (fun _ _ => ⟨rfl, rfl, (by decide : 3 + 0 ≤ _), (by decide : 10 + 0 ≤ _)⟩)
        dsimp only [Pt.U, Pt.locs, Pt.cells, Pt.slots] at X127 l127 y127 z127 st127 hQ127
        subst l127 y127 z127
        obtain ⟨rfl, Nq127, e127⟩ := hQ127
        have N127 := Fr.app N126 Nq127
        refine Goes.tr st127 ?_
        refine Goes.by (fun _ kz => XS.istore X127.here hx rfl (hb hby at_53) rfl (l' := #[iv p1, iv p2, iv 0, iv 0, rv b1, iv 0, iv 0, iv 0, .unset, .unset, .unset]) rfl (XS.aload X127.here hx rfl (hb hby at_55) rfl rfl (XS.iloadN X127.here hx rfl (hb hby at_57) rfl kz))) ?_
        obtain ⟨cq129, kq129, q129a, q129b, q129c⟩ := isOf hZ e127 f128
        obtain ⟨_, _, ⟨T129, L129, k129, n129⟩, -, X129, ⟨Lc129, hQ129, l129, y129, z129⟩, st129⟩ := X127.virtualBack hx (y := (⟨"com/example/entail/entail/model/EntrySettings", "setBlocks", "(Z)Z"⟩ : MethodName)) (z := (⟨"com/example/entail/entail/model/EntrySettings", "setBlocks", "(Z)Z"⟩ : MethodName)) hown (mvT hZ (hw _ (List.mem_of_getElem? (i := 95) rfl))) (mvT hZ (hw _ (List.mem_of_getElem? (i := 96) rfl))) (notFace_of_selects (args := #[]) (mvT hZ (hw _ (List.mem_of_getElem? (i := 98) rfl)))) (mvT hZ (hw _ (List.mem_of_getElem? (i := 98) rfl))) (mvT hZ (hw _ (List.mem_of_getElem? (i := 97) rfl))) (by decide) (backOf (W := 0) (r12_110 l Z a0 hw [] T126.heap n0 Z126 q2 b1 b5_105 f128 fq126_0 fq126_1 fq126_2 fq126_3 g_b1) hZ (hw _ (List.mem_of_getElem? (i := 99) rfl)) (hw _ (List.mem_of_getElem? (i := 2) rfl)) (by decide) (by decide)) q129a q129c (g := (mkF m 58 #[iv p1, iv p2, iv 0, iv 0, rv b1, iv 0, iv 0, iv 0, .unset, .unset, .unset] [(.int 0), (.ref b1)])) rfl (by rw [hml]; rfl) (Steps.refl _) (argsL := [(.int 0)]) (rest := []) (lenOf pd6 rfl) rfl (by show 2 * 0 + _ ≤ _; exact Nat.le_of_eq rfl) (hb hby at_58) (fun _ _ => ⟨rfl, e127, (by decide : 3 + 0 ≤ _), (by decide : 10 + 0 ≤ _)⟩)
        dsimp only [Pt.U, Pt.locs, Pt.cells, Pt.slots] at X129 l129 y129 z129 st129 hQ129
        subst l129 y129 z129
        obtain ⟨rfl, Nq129, Kq129, fq129_0, fq129_1, fq129_2, fq129_3⟩ := hQ129
        have K129 : Keep h0 T129.heap [] := Keep.trans K126 Kq129 (allS (Or.inr sz_b1) all0)
        have Z129 : n0 ≤ T129.heap.size := Nat.le_trans Z126 Kq129.1
        have N129 := Fr.app N127 Nq129
        refine Goes.tr st129 ?_
        refine Goes.by (fun _ kz => XS.istore X129.here hx rfl (hb hby at_61) rfl (l' := #[iv p1, iv p2, iv 0, iv 0, rv b1, iv 0, iv 0, iv 0, iv 0, .unset, .unset]) rfl (XS.aload X129.here hx rfl (hb hby at_63) rfl rfl kz)) ?_
        have f131 := (f128.keep Kq129)
        obtain ⟨cq130, kq130, q130a, q130b, q130c⟩ := isOf hZ rfl f131
        obtain ⟨_, _, ⟨T130, L130, k130, n130⟩, -, X130, ⟨Lc130, hQ130, l130, y130, z130⟩, st130⟩ := X129.virtualBack hx (y := (⟨"com/example/entail/entail/model/EntrySettings", "blocks", "()Z"⟩ : MethodName)) (z := (⟨"com/example/entail/entail/model/EntrySettings", "blocks", "()Z"⟩ : MethodName)) hown (mvT hZ (hw _ (List.mem_of_getElem? (i := 88) rfl))) (mvT hZ (hw _ (List.mem_of_getElem? (i := 89) rfl))) (notFace_of_selects (args := #[]) (mvT hZ (hw _ (List.mem_of_getElem? (i := 91) rfl)))) (mvT hZ (hw _ (List.mem_of_getElem? (i := 91) rfl))) (mvT hZ (hw _ (List.mem_of_getElem? (i := 90) rfl))) (by decide) (backOf (W := 0) (r11_105 l Z a0 hw [] T129.heap n0 Z129 b1 fq129_3) hZ (hw _ (List.mem_of_getElem? (i := 92) rfl)) (hw _ (List.mem_of_getElem? (i := 2) rfl)) (by decide) (by decide)) q130a q130c (g := (mkF m 65 #[iv p1, iv p2, iv 0, iv 0, rv b1, iv 0, iv 0, iv 0, iv 0, .unset, .unset] [(.ref b1)])) rfl (by rw [hml]; rfl) (Steps.refl _) (argsL := []) (rest := []) (lenOf pd5 rfl) rfl (by show 2 * 0 + _ ≤ _; exact Nat.le_of_eq rfl) (hb hby at_65) (fun _ _ => ⟨rfl, rfl, (by decide : 3 + 0 ≤ _), (by decide : 10 + 0 ≤ _)⟩)
        dsimp only [Pt.U, Pt.locs, Pt.cells, Pt.slots] at X130 l130 y130 z130 st130 hQ130
        subst l130 y130 z130
        obtain ⟨rfl, Nq130, e130⟩ := hQ130
        have N130 := Fr.app N129 Nq130
        refine Goes.tr st130 ?_
        refine Goes.by (fun _ kz => XS.istore X130.here hx rfl (hb hby at_68) rfl (l' := #[iv p1, iv p2, iv 0, iv 0, rv b1, iv 0, iv 0, iv 0, iv 0, iv 0, .unset]) rfl (XS.iload X130.here hx rfl (hb hby at_70) rfl (XS.ifNo X130.here hx rfl (hb hby at_72) rfl ((if0 _ _).trans (teq (by decide : (0 : Int32) = (0 : Int32))).2) kz))) ?_
        show Goes p e below (T130.setTop (mkF m 75 #[iv p1, iv p2, iv 0, iv 0, rv b1, iv 0, iv 0, iv 0, iv 0, iv 0, .unset] [])) _
        refine Goes.by (fun _ kz => XS.iconst X130.here hx rfl (hb hby at_75) (XS.goto X130.here hx rfl (pc0 := 76) (pc' := 80) rfl (hb hby at_76) (by decide) (by decide) (XS.istore X130.here hx rfl (hb hby at_80) rfl (l' := #[iv p1, iv p2, iv 0, iv 0, rv b1, iv 0, iv 0, iv 0, iv 0, iv 0, iv 1]) rfl kz))) ?_
        show Goes p e below (T130.setTop (mkF m 82 #[iv p1, iv p2, iv 0, iv 0, rv b1, iv 0, iv 0, iv 0, iv 0, iv 0, iv 1] [])) _
        refine Goes.by (fun _ kz => XS.iload X130.here hx rfl (hb hby at_82) rfl (XS.ifNo X130.here hx rfl (hb hby at_84) rfl ((if0 _ _).trans (feq (by decide : ¬ ((1 : Int32) = (0 : Int32)))).1) (XS.iload X130.here hx rfl (hb hby at_87) rfl kz))) ?_
        show Goes p e below (T130.setTop (mkF m 89 #[iv p1, iv p2, iv 0, iv 0, rv b1, iv 0, iv 0, iv 0, iv 0, iv 0, iv 1] [(.int 0)])) _
        refine Goes.by (fun _ kz => XS.iloadN X130.here hx rfl (hb hby at_89) rfl (XS.icmpNo X130.here hx rfl (hb hby at_90) rfl (teq (by decide : (0 : Int32) = (0 : Int32))).2 (XS.iconst X130.here hx rfl (hb hby at_93) kz))) ?_
        show Goes p e below (T130.setTop (mkF m 94 #[iv p1, iv p2, iv 0, iv 0, rv b1, iv 0, iv 0, iv 0, iv 0, iv 0, iv 1] [(.int 1)])) _
        refine Goes.by (fun _ kz => XS.goto X130.here hx rfl (pc0 := 94) (pc' := 98) rfl (hb hby at_94) (by decide) (by decide) (XS.istore X130.here hx rfl (hb hby at_98) rfl (l' := #[iv p1, iv p2, iv 0, iv 0, rv b1, iv 0, iv 0, iv 0, iv 0, iv 0, iv 1]) rfl (XS.iload X130.here hx rfl (hb hby at_100) rfl kz))) ?_
        show Goes p e below (T130.setTop (mkF m 102 #[iv p1, iv p2, iv 0, iv 0, rv b1, iv 0, iv 0, iv 0, iv 0, iv 0, iv 1] [(.int 1)])) _
        refine Goes.by (fun _ kz => XS.ifNo X130.here hx rfl (hb hby at_102) rfl ((if0 _ _).trans (feq (by decide : ¬ ((1 : Int32) = (0 : Int32)))).1) (XS.iload X130.here hx rfl (hb hby at_105) rfl (XS.iloadN X130.here hx rfl (hb hby at_107) rfl kz))) ?_
        show Goes p e below (T130.setTop (mkF m 108 #[iv p1, iv p2, iv 0, iv 0, rv b1, iv 0, iv 0, iv 0, iv 0, iv 0, iv 1] [(.int 0), (.int 0)])) _
        refine Goes.by (fun _ kz => XS.icmpNo X130.here hx rfl (hb hby at_108) rfl (teq (by decide : (0 : Int32) = (0 : Int32))).2 (XS.iconst X130.here hx rfl (hb hby at_111) (XS.goto X130.here hx rfl (pc0 := 112) (pc' := 116) rfl (hb hby at_112) (by decide) (by decide) kz))) ?_
        show Goes p e below (T130.setTop (mkF m 116 #[iv p1, iv p2, iv 0, iv 0, rv b1, iv 0, iv 0, iv 0, iv 0, iv 0, iv 1] [(.int 1)])) _
        refine Goes.by (fun _ kz => XS.istore X130.here hx rfl (hb hby at_116) rfl (l' := #[iv p1, iv p2, iv 0, iv 0, rv b1, iv 0, iv 0, iv 0, iv 0, iv 0, iv 1]) rfl (XS.iload X130.here hx rfl (hb hby at_118) rfl (XS.ifNo X130.here hx rfl (hb hby at_120) rfl ((if0 _ _).trans (feq (by decide : ¬ ((1 : Int32) = (0 : Int32)))).1) kz))) ?_
        show Goes p e below (T130.setTop (mkF m 123 #[iv p1, iv p2, iv 0, iv 0, rv b1, iv 0, iv 0, iv 0, iv 0, iv 0, iv 1] [])) _
        refine Goes.by (fun _ kz => XS.iload X130.here hx rfl (hb hby at_123) rfl (XS.iloadN X130.here hx rfl (hb hby at_125) rfl (XS.iloadN X130.here hx rfl (hb hby at_126) rfl kz))) ?_
        show Goes p e below (T130.setTop (mkF m 127 #[iv p1, iv p2, iv 0, iv 0, rv b1, iv 0, iv 0, iv 0, iv 0, iv 0, iv 1] [(.int 0), (.int 0), (.int 0)])) _
        refine Goes.by (fun _ kz => XS.icmpYes X130.here hx rfl (pc0 := 127) (pc' := 134) rfl (hb hby at_127) rfl (teq (by decide : (0 : Int32) = (0 : Int32))).1 (by decide) (by decide) (XS.iconst X130.here hx rfl (hb hby at_134) (XS.icmpNo X130.here hx rfl (hb hby at_135) rfl (teq (by decide : (0 : Int32) = (0 : Int32))).2 kz))) ?_
        show Goes p e below (T130.setTop (mkF m 138 #[iv p1, iv p2, iv 0, iv 0, rv b1, iv 0, iv 0, iv 0, iv 0, iv 0, iv 1] [])) _
        refine Goes.by (fun _ kz => XS.iconst X130.here hx rfl (hb hby at_138) (XS.goto X130.here hx rfl (pc0 := 139) (pc' := 143) rfl (hb hby at_139) (by decide) (by decide) (XS.istore X130.here hx rfl (hb hby at_143) rfl (l' := #[iv p1, iv p2, iv 0, iv 0, rv b1, iv 0, iv 0, iv 0, iv 0, iv 0, iv 1]) rfl kz))) ?_
        show Goes p e below (T130.setTop (mkF m 145 #[iv p1, iv p2, iv 0, iv 0, rv b1, iv 0, iv 0, iv 0, iv 0, iv 0, iv 1] [])) _
        refine Goes.by (fun _ kz => XS.iload X130.here hx rfl (hb hby at_145) rfl (XS.ifNo X130.here hx rfl (hb hby at_147) rfl ((if0 _ _).trans (feq (by decide : ¬ ((1 : Int32) = (0 : Int32)))).1) (XS.iload X130.here hx rfl (hb hby at_150) rfl kz))) ?_
        show Goes p e below (T130.setTop (mkF m 152 #[iv p1, iv p2, iv 0, iv 0, rv b1, iv 0, iv 0, iv 0, iv 0, iv 0, iv 1] [(.int 0)])) _
        refine Goes.by (fun _ kz => XS.iloadN X130.here hx rfl (hb hby at_152) rfl (XS.icmpNo X130.here hx rfl (hb hby at_153) rfl (teq (by decide : (0 : Int32) = (0 : Int32))).2 (XS.iconst X130.here hx rfl (hb hby at_156) kz))) ?_
        show Goes p e below (T130.setTop (mkF m 157 #[iv p1, iv p2, iv 0, iv 0, rv b1, iv 0, iv 0, iv 0, iv 0, iv 0, iv 1] [(.int 1)])) _
        refine Goes.by (fun _ kz => XS.goto X130.here hx rfl (pc0 := 157) (pc' := 161) rfl (hb hby at_157) (by decide) (by decide) (XS.istore X130.here hx rfl (hb hby at_161) rfl (l' := #[iv p1, iv p2, iv 0, iv 0, rv b1, iv 0, iv 0, iv 0, iv 0, iv 0, iv 1]) rfl (XS.iload X130.here hx rfl (hb hby at_163) rfl kz))) ?_
        show Goes p e below (T130.setTop (mkF m 165 #[iv p1, iv p2, iv 0, iv 0, rv b1, iv 0, iv 0, iv 0, iv 0, iv 0, iv 1] [(.int 1)])) _
        obtain ⟨fs, hr, hrun, hended, hW, hsame⟩ := X130.leave (v := some (.int 1)) (fun h => by rw [Bd.returns] at h; cases h)
        exact ⟨_, _, retN X130 hx (t := .boolean) Bd.returns (by simp) (hb hby at_165) hr, hrun, hended, _, _, rfl, ⟨rfl, N130⟩, ⟨_, rfl⟩, hW, hsame.mono (by decide) (by decide)⟩
      · obtain ⟨b5_105, b37_56_105, rfl, Nq105, Kq105, sq105_b5, sq105_b37_56, fq105_0, fq105_1, fq105_2, fq105_3, fq105_4, fq105_5, fq105_6, fq105_7, fq105_8, fq105_9, hc105_56_32, hc105_56_35⟩ := hQ105
        have K105 : Keep h0 T105.heap [] := Keep.trans K1 Kq105 (allS (Or.inr sz_b1) all0)
        have Z105 : n0 ≤ T105.heap.size := Nat.le_trans Z1 Kq105.1
        have ne105_b5_b1 : b1 ≠ b5_105 := Nat.ne_of_lt (Nat.lt_of_lt_of_le A1.lt sq105_b5)
        have g_b5_105 : n0 ≤ b5_105 := Nat.le_trans Z1 sq105_b5
        have sz_b5_105 : h0.size ≤ b5_105 := Nat.le_trans K1.1 sq105_b5
        have ne105_b37_56_b1 : b1 ≠ b37_56_105 := Nat.ne_of_lt (Nat.lt_of_lt_of_le A1.lt sq105_b37_56)
        have g_b37_56_105 : n0 ≤ b37_56_105 := Nat.le_trans Z1 sq105_b37_56
        have sz_b37_56_105 : h0.size ≤ b37_56_105 := Nat.le_trans K1.1 sq105_b37_56
        have N105 := Fr.app N0 Nq105
        refine Goes.tr st105 ?_
        refine Goes.by (fun _ kz => XS.astore X105.here hx rfl (hb hby at_31) rfl rfl (l' := #[iv p1, iv p2, iv 0, iv 0, rv b1, .unset, .unset, .unset, .unset, .unset, .unset]) rfl (XS.aload X105.here hx rfl (hb hby at_33) rfl rfl kz)) ?_
        have f133 := (A1.keep Kq105)
        obtain ⟨cq132, kq132, q132a, q132b, q132c⟩ := isOf hZ rfl f133
        obtain ⟨_, _, ⟨T132, L132, k132, n132⟩, -, X132, ⟨Lc132, hQ132, l132, y132, z132⟩, st132⟩ := X105.virtualBack hx (y := (⟨"com/example/entail/entail/model/EntrySettings", "blocks", "()Z"⟩ : MethodName)) (z := (⟨"com/example/entail/entail/model/EntrySettings", "blocks", "()Z"⟩ : MethodName)) hown (mvT hZ (hw _ (List.mem_of_getElem? (i := 88) rfl))) (mvT hZ (hw _ (List.mem_of_getElem? (i := 89) rfl))) (notFace_of_selects (args := #[]) (mvT hZ (hw _ (List.mem_of_getElem? (i := 91) rfl)))) (mvT hZ (hw _ (List.mem_of_getElem? (i := 91) rfl))) (mvT hZ (hw _ (List.mem_of_getElem? (i := 90) rfl))) (by decide) (backOf (W := 0) (r11_105 l Z a0 hw [] T105.heap n0 Z105 b1 fq105_3) hZ (hw _ (List.mem_of_getElem? (i := 92) rfl)) (hw _ (List.mem_of_getElem? (i := 2) rfl)) (by decide) (by decide)) q132a q132c (g := (mkF m 35 #[iv p1, iv p2, iv 0, iv 0, rv b1, .unset, .unset, .unset, .unset, .unset, .unset] [(.ref b1)])) rfl (by rw [hml]; rfl) (Steps.refl _) (argsL := []) (rest := []) (lenOf pd5 rfl) rfl (by show 2 * 0 + _ ≤ _; exact Nat.le_of_eq rfl) (hb hby at_35) (fun _ _ => ⟨rfl, rfl, (by decide : 3 + 0 ≤ _), (by decide : 10 + 0 ≤ _)⟩)
        dsimp only [Pt.U, Pt.locs, Pt.cells, Pt.slots] at X132 l132 y132 z132 st132 hQ132
        subst l132 y132 z132
        obtain ⟨rfl, Nq132, e132⟩ := hQ132
        have N132 := Fr.app N105 Nq132
        refine Goes.tr st132 ?_
        refine Goes.by (fun _ kz => XS.istore X132.here hx rfl (hb hby at_38) rfl (l' := #[iv p1, iv p2, iv 0, iv 0, rv b1, iv 0, .unset, .unset, .unset, .unset, .unset]) rfl (XS.aload X132.here hx rfl (hb hby at_40) rfl rfl (XS.iloadN X132.here hx rfl (hb hby at_42) rfl kz))) ?_
        obtain ⟨cq141, kq141, q141a, q141b, q141c⟩ := isOf hZ e132 f133
        obtain ⟨_, _, ⟨T141, L141, k141, n141⟩, -, X141, ⟨Lc141, hQ141, l141, y141, z141⟩, st141⟩ := X132.virtualBack hx (y := (⟨"com/example/entail/entail/model/EntrySettings", "setBlocks", "(Z)Z"⟩ : MethodName)) (z := (⟨"com/example/entail/entail/model/EntrySettings", "setBlocks", "(Z)Z"⟩ : MethodName)) hown (mvT hZ (hw _ (List.mem_of_getElem? (i := 95) rfl))) (mvT hZ (hw _ (List.mem_of_getElem? (i := 96) rfl))) (notFace_of_selects (args := #[]) (mvT hZ (hw _ (List.mem_of_getElem? (i := 98) rfl)))) (mvT hZ (hw _ (List.mem_of_getElem? (i := 98) rfl))) (mvT hZ (hw _ (List.mem_of_getElem? (i := 97) rfl))) (by decide) (backOf (W := 0) (r12_133 l Z a0 hw [] T105.heap n0 Z105 q2 b1 b5_105 b37_56_105 f133 fq105_0 fq105_1 fq105_2 fq105_3 g_b1) hZ (hw _ (List.mem_of_getElem? (i := 99) rfl)) (hw _ (List.mem_of_getElem? (i := 2) rfl)) (by decide) (by decide)) q141a q141c (g := (mkF m 43 #[iv p1, iv p2, iv 0, iv 0, rv b1, iv 0, .unset, .unset, .unset, .unset, .unset] [(.int 0), (.ref b1)])) rfl (by rw [hml]; rfl) (Steps.refl _) (argsL := [(.int 0)]) (rest := []) (lenOf pd6 rfl) rfl (by show 2 * 0 + _ ≤ _; exact Nat.le_of_eq rfl) (hb hby at_43) (fun _ _ => ⟨rfl, e132, (by decide : 3 + 0 ≤ _), (by decide : 10 + 0 ≤ _)⟩)
        dsimp only [Pt.U, Pt.locs, Pt.cells, Pt.slots] at X141 l141 y141 z141 st141 hQ141
        subst l141 y141 z141
        obtain ⟨rfl, Nq141, Kq141, fq141_0, fq141_1, fq141_2, fq141_3⟩ := hQ141
        have K141 : Keep h0 T141.heap [] := Keep.trans K105 Kq141 (allS (Or.inr sz_b1) all0)
        have Z141 : n0 ≤ T141.heap.size := Nat.le_trans Z105 Kq141.1
        have N141 := Fr.app N132 Nq141
        refine Goes.tr st141 ?_
        refine Goes.by (fun _ kz => XS.istore X141.here hx rfl (hb hby at_46) rfl (l' := #[iv p1, iv p2, iv 0, iv 0, rv b1, iv 0, iv 0, .unset, .unset, .unset, .unset]) rfl (XS.aload X141.here hx rfl (hb hby at_48) rfl rfl kz)) ?_
        have f143 := (f133.keep Kq141)
        obtain ⟨cq142, kq142, q142a, q142b, q142c⟩ := isOf hZ rfl f143
        obtain ⟨_, _, ⟨T142, L142, k142, n142⟩, -, X142, ⟨Lc142, hQ142, l142, y142, z142⟩, st142⟩ := X141.virtualBack hx (y := (⟨"com/example/entail/entail/model/EntrySettings", "blocks", "()Z"⟩ : MethodName)) (z := (⟨"com/example/entail/entail/model/EntrySettings", "blocks", "()Z"⟩ : MethodName)) hown (mvT hZ (hw _ (List.mem_of_getElem? (i := 88) rfl))) (mvT hZ (hw _ (List.mem_of_getElem? (i := 89) rfl))) (notFace_of_selects (args := #[]) (mvT hZ (hw _ (List.mem_of_getElem? (i := 91) rfl)))) (mvT hZ (hw _ (List.mem_of_getElem? (i := 91) rfl))) (mvT hZ (hw _ (List.mem_of_getElem? (i := 90) rfl))) (by decide) (backOf (W := 0) (r11_105 l Z a0 hw [] T141.heap n0 Z141 b1 fq141_3) hZ (hw _ (List.mem_of_getElem? (i := 92) rfl)) (hw _ (List.mem_of_getElem? (i := 2) rfl)) (by decide) (by decide)) q142a q142c (g := (mkF m 50 #[iv p1, iv p2, iv 0, iv 0, rv b1, iv 0, iv 0, .unset, .unset, .unset, .unset] [(.ref b1)])) rfl (by rw [hml]; rfl) (Steps.refl _) (argsL := []) (rest := []) (lenOf pd5 rfl) rfl (by show 2 * 0 + _ ≤ _; exact Nat.le_of_eq rfl) (hb hby at_50) (fun _ _ => ⟨rfl, rfl, (by decide : 3 + 0 ≤ _), (by decide : 10 + 0 ≤ _)⟩)
        dsimp only [Pt.U, Pt.locs, Pt.cells, Pt.slots] at X142 l142 y142 z142 st142 hQ142
        subst l142 y142 z142
        obtain ⟨rfl, Nq142, e142⟩ := hQ142
        have N142 := Fr.app N141 Nq142
        refine Goes.tr st142 ?_
        refine Goes.by (fun _ kz => XS.istore X142.here hx rfl (hb hby at_53) rfl (l' := #[iv p1, iv p2, iv 0, iv 0, rv b1, iv 0, iv 0, iv 0, .unset, .unset, .unset]) rfl (XS.aload X142.here hx rfl (hb hby at_55) rfl rfl (XS.iloadN X142.here hx rfl (hb hby at_57) rfl kz))) ?_
        obtain ⟨cq144, kq144, q144a, q144b, q144c⟩ := isOf hZ e142 f143
        obtain ⟨_, _, ⟨T144, L144, k144, n144⟩, -, X144, ⟨Lc144, hQ144, l144, y144, z144⟩, st144⟩ := X142.virtualBack hx (y := (⟨"com/example/entail/entail/model/EntrySettings", "setBlocks", "(Z)Z"⟩ : MethodName)) (z := (⟨"com/example/entail/entail/model/EntrySettings", "setBlocks", "(Z)Z"⟩ : MethodName)) hown (mvT hZ (hw _ (List.mem_of_getElem? (i := 95) rfl))) (mvT hZ (hw _ (List.mem_of_getElem? (i := 96) rfl))) (notFace_of_selects (args := #[]) (mvT hZ (hw _ (List.mem_of_getElem? (i := 98) rfl)))) (mvT hZ (hw _ (List.mem_of_getElem? (i := 98) rfl))) (mvT hZ (hw _ (List.mem_of_getElem? (i := 97) rfl))) (by decide) (backOf (W := 0) (r12_133 l Z a0 hw [] T141.heap n0 Z141 q2 b1 b5_105 b37_56_105 f143 fq141_0 fq141_1 fq141_2 fq141_3 g_b1) hZ (hw _ (List.mem_of_getElem? (i := 99) rfl)) (hw _ (List.mem_of_getElem? (i := 2) rfl)) (by decide) (by decide)) q144a q144c (g := (mkF m 58 #[iv p1, iv p2, iv 0, iv 0, rv b1, iv 0, iv 0, iv 0, .unset, .unset, .unset] [(.int 0), (.ref b1)])) rfl (by rw [hml]; rfl) (Steps.refl _) (argsL := [(.int 0)]) (rest := []) (lenOf pd6 rfl) rfl (by show 2 * 0 + _ ≤ _; exact Nat.le_of_eq rfl) (hb hby at_58) (fun _ _ => ⟨rfl, e142, (by decide : 3 + 0 ≤ _), (by decide : 10 + 0 ≤ _)⟩)
        dsimp only [Pt.U, Pt.locs, Pt.cells, Pt.slots] at X144 l144 y144 z144 st144 hQ144
        subst l144 y144 z144
        obtain ⟨rfl, Nq144, Kq144, fq144_0, fq144_1, fq144_2, fq144_3⟩ := hQ144
        have K144 : Keep h0 T144.heap [] := Keep.trans K141 Kq144 (allS (Or.inr sz_b1) all0)
        have Z144 : n0 ≤ T144.heap.size := Nat.le_trans Z141 Kq144.1
        have N144 := Fr.app N142 Nq144
        refine Goes.tr st144 ?_
        refine Goes.by (fun _ kz => XS.istore X144.here hx rfl (hb hby at_61) rfl (l' := #[iv p1, iv p2, iv 0, iv 0, rv b1, iv 0, iv 0, iv 0, iv 0, .unset, .unset]) rfl (XS.aload X144.here hx rfl (hb hby at_63) rfl rfl kz)) ?_
        have f146 := (f143.keep Kq144)
        obtain ⟨cq145, kq145, q145a, q145b, q145c⟩ := isOf hZ rfl f146
        obtain ⟨_, _, ⟨T145, L145, k145, n145⟩, -, X145, ⟨Lc145, hQ145, l145, y145, z145⟩, st145⟩ := X144.virtualBack hx (y := (⟨"com/example/entail/entail/model/EntrySettings", "blocks", "()Z"⟩ : MethodName)) (z := (⟨"com/example/entail/entail/model/EntrySettings", "blocks", "()Z"⟩ : MethodName)) hown (mvT hZ (hw _ (List.mem_of_getElem? (i := 88) rfl))) (mvT hZ (hw _ (List.mem_of_getElem? (i := 89) rfl))) (notFace_of_selects (args := #[]) (mvT hZ (hw _ (List.mem_of_getElem? (i := 91) rfl)))) (mvT hZ (hw _ (List.mem_of_getElem? (i := 91) rfl))) (mvT hZ (hw _ (List.mem_of_getElem? (i := 90) rfl))) (by decide) (backOf (W := 0) (r11_105 l Z a0 hw [] T144.heap n0 Z144 b1 fq144_3) hZ (hw _ (List.mem_of_getElem? (i := 92) rfl)) (hw _ (List.mem_of_getElem? (i := 2) rfl)) (by decide) (by decide)) q145a q145c (g := (mkF m 65 #[iv p1, iv p2, iv 0, iv 0, rv b1, iv 0, iv 0, iv 0, iv 0, .unset, .unset] [(.ref b1)])) rfl (by rw [hml]; rfl) (Steps.refl _) (argsL := []) (rest := []) (lenOf pd5 rfl) rfl (by show 2 * 0 + _ ≤ _; exact Nat.le_of_eq rfl) (hb hby at_65) (fun _ _ => ⟨rfl, rfl, (by decide : 3 + 0 ≤ _), (by decide : 10 + 0 ≤ _)⟩)
        dsimp only [Pt.U, Pt.locs, Pt.cells, Pt.slots] at X145 l145 y145 z145 st145 hQ145
        subst l145 y145 z145
        obtain ⟨rfl, Nq145, e145⟩ := hQ145
        have N145 := Fr.app N144 Nq145
        refine Goes.tr st145 ?_
        refine Goes.by (fun _ kz => XS.istore X145.here hx rfl (hb hby at_68) rfl (l' := #[iv p1, iv p2, iv 0, iv 0, rv b1, iv 0, iv 0, iv 0, iv 0, iv 0, .unset]) rfl (XS.iload X145.here hx rfl (hb hby at_70) rfl (XS.ifNo X145.here hx rfl (hb hby at_72) rfl ((if0 _ _).trans (teq (by decide : (0 : Int32) = (0 : Int32))).2) kz))) ?_
        show Goes p e below (T145.setTop (mkF m 75 #[iv p1, iv p2, iv 0, iv 0, rv b1, iv 0, iv 0, iv 0, iv 0, iv 0, .unset] [])) _
        refine Goes.by (fun _ kz => XS.iconst X145.here hx rfl (hb hby at_75) (XS.goto X145.here hx rfl (pc0 := 76) (pc' := 80) rfl (hb hby at_76) (by decide) (by decide) (XS.istore X145.here hx rfl (hb hby at_80) rfl (l' := #[iv p1, iv p2, iv 0, iv 0, rv b1, iv 0, iv 0, iv 0, iv 0, iv 0, iv 1]) rfl kz))) ?_
        show Goes p e below (T145.setTop (mkF m 82 #[iv p1, iv p2, iv 0, iv 0, rv b1, iv 0, iv 0, iv 0, iv 0, iv 0, iv 1] [])) _
        refine Goes.by (fun _ kz => XS.iload X145.here hx rfl (hb hby at_82) rfl (XS.ifNo X145.here hx rfl (hb hby at_84) rfl ((if0 _ _).trans (feq (by decide : ¬ ((1 : Int32) = (0 : Int32)))).1) (XS.iload X145.here hx rfl (hb hby at_87) rfl kz))) ?_
        show Goes p e below (T145.setTop (mkF m 89 #[iv p1, iv p2, iv 0, iv 0, rv b1, iv 0, iv 0, iv 0, iv 0, iv 0, iv 1] [(.int 0)])) _
        refine Goes.by (fun _ kz => XS.iloadN X145.here hx rfl (hb hby at_89) rfl (XS.icmpNo X145.here hx rfl (hb hby at_90) rfl (teq (by decide : (0 : Int32) = (0 : Int32))).2 (XS.iconst X145.here hx rfl (hb hby at_93) kz))) ?_
        show Goes p e below (T145.setTop (mkF m 94 #[iv p1, iv p2, iv 0, iv 0, rv b1, iv 0, iv 0, iv 0, iv 0, iv 0, iv 1] [(.int 1)])) _
        refine Goes.by (fun _ kz => XS.goto X145.here hx rfl (pc0 := 94) (pc' := 98) rfl (hb hby at_94) (by decide) (by decide) (XS.istore X145.here hx rfl (hb hby at_98) rfl (l' := #[iv p1, iv p2, iv 0, iv 0, rv b1, iv 0, iv 0, iv 0, iv 0, iv 0, iv 1]) rfl (XS.iload X145.here hx rfl (hb hby at_100) rfl kz))) ?_
        show Goes p e below (T145.setTop (mkF m 102 #[iv p1, iv p2, iv 0, iv 0, rv b1, iv 0, iv 0, iv 0, iv 0, iv 0, iv 1] [(.int 1)])) _
        refine Goes.by (fun _ kz => XS.ifNo X145.here hx rfl (hb hby at_102) rfl ((if0 _ _).trans (feq (by decide : ¬ ((1 : Int32) = (0 : Int32)))).1) (XS.iload X145.here hx rfl (hb hby at_105) rfl (XS.iloadN X145.here hx rfl (hb hby at_107) rfl kz))) ?_
        show Goes p e below (T145.setTop (mkF m 108 #[iv p1, iv p2, iv 0, iv 0, rv b1, iv 0, iv 0, iv 0, iv 0, iv 0, iv 1] [(.int 0), (.int 0)])) _
        refine Goes.by (fun _ kz => XS.icmpNo X145.here hx rfl (hb hby at_108) rfl (teq (by decide : (0 : Int32) = (0 : Int32))).2 (XS.iconst X145.here hx rfl (hb hby at_111) (XS.goto X145.here hx rfl (pc0 := 112) (pc' := 116) rfl (hb hby at_112) (by decide) (by decide) kz))) ?_
        show Goes p e below (T145.setTop (mkF m 116 #[iv p1, iv p2, iv 0, iv 0, rv b1, iv 0, iv 0, iv 0, iv 0, iv 0, iv 1] [(.int 1)])) _
        refine Goes.by (fun _ kz => XS.istore X145.here hx rfl (hb hby at_116) rfl (l' := #[iv p1, iv p2, iv 0, iv 0, rv b1, iv 0, iv 0, iv 0, iv 0, iv 0, iv 1]) rfl (XS.iload X145.here hx rfl (hb hby at_118) rfl (XS.ifNo X145.here hx rfl (hb hby at_120) rfl ((if0 _ _).trans (feq (by decide : ¬ ((1 : Int32) = (0 : Int32)))).1) kz))) ?_
        show Goes p e below (T145.setTop (mkF m 123 #[iv p1, iv p2, iv 0, iv 0, rv b1, iv 0, iv 0, iv 0, iv 0, iv 0, iv 1] [])) _
        refine Goes.by (fun _ kz => XS.iload X145.here hx rfl (hb hby at_123) rfl (XS.iloadN X145.here hx rfl (hb hby at_125) rfl (XS.iloadN X145.here hx rfl (hb hby at_126) rfl kz))) ?_
        show Goes p e below (T145.setTop (mkF m 127 #[iv p1, iv p2, iv 0, iv 0, rv b1, iv 0, iv 0, iv 0, iv 0, iv 0, iv 1] [(.int 0), (.int 0), (.int 0)])) _
        refine Goes.by (fun _ kz => XS.icmpYes X145.here hx rfl (pc0 := 127) (pc' := 134) rfl (hb hby at_127) rfl (teq (by decide : (0 : Int32) = (0 : Int32))).1 (by decide) (by decide) (XS.iconst X145.here hx rfl (hb hby at_134) (XS.icmpNo X145.here hx rfl (hb hby at_135) rfl (teq (by decide : (0 : Int32) = (0 : Int32))).2 kz))) ?_
        show Goes p e below (T145.setTop (mkF m 138 #[iv p1, iv p2, iv 0, iv 0, rv b1, iv 0, iv 0, iv 0, iv 0, iv 0, iv 1] [])) _
        refine Goes.by (fun _ kz => XS.iconst X145.here hx rfl (hb hby at_138) (XS.goto X145.here hx rfl (pc0 := 139) (pc' := 143) rfl (hb hby at_139) (by decide) (by decide) (XS.istore X145.here hx rfl (hb hby at_143) rfl (l' := #[iv p1, iv p2, iv 0, iv 0, rv b1, iv 0, iv 0, iv 0, iv 0, iv 0, iv 1]) rfl kz))) ?_
        show Goes p e below (T145.setTop (mkF m 145 #[iv p1, iv p2, iv 0, iv 0, rv b1, iv 0, iv 0, iv 0, iv 0, iv 0, iv 1] [])) _
        refine Goes.by (fun _ kz => XS.iload X145.here hx rfl (hb hby at_145) rfl (XS.ifNo X145.here hx rfl (hb hby at_147) rfl ((if0 _ _).trans (feq (by decide : ¬ ((1 : Int32) = (0 : Int32)))).1) (XS.iload X145.here hx rfl (hb hby at_150) rfl kz))) ?_
        show Goes p e below (T145.setTop (mkF m 152 #[iv p1, iv p2, iv 0, iv 0, rv b1, iv 0, iv 0, iv 0, iv 0, iv 0, iv 1] [(.int 0)])) _
        refine Goes.by (fun _ kz => XS.iloadN X145.here hx rfl (hb hby at_152) rfl (XS.icmpNo X145.here hx rfl (hb hby at_153) rfl (teq (by decide : (0 : Int32) = (0 : Int32))).2 (XS.iconst X145.here hx rfl (hb hby at_156) kz))) ?_
        show Goes p e below (T145.setTop (mkF m 157 #[iv p1, iv p2, iv 0, iv 0, rv b1, iv 0, iv 0, iv 0, iv 0, iv 0, iv 1] [(.int 1)])) _
        refine Goes.by (fun _ kz => XS.goto X145.here hx rfl (pc0 := 157) (pc' := 161) rfl (hb hby at_157) (by decide) (by decide) (XS.istore X145.here hx rfl (hb hby at_161) rfl (l' := #[iv p1, iv p2, iv 0, iv 0, rv b1, iv 0, iv 0, iv 0, iv 0, iv 0, iv 1]) rfl (XS.iload X145.here hx rfl (hb hby at_163) rfl kz))) ?_
        show Goes p e below (T145.setTop (mkF m 165 #[iv p1, iv p2, iv 0, iv 0, rv b1, iv 0, iv 0, iv 0, iv 0, iv 0, iv 1] [(.int 1)])) _
        obtain ⟨fs, hr, hrun, hended, hW, hsame⟩ := X145.leave (v := some (.int 1)) (fun h => by rw [Bd.returns] at h; cases h)
        exact ⟨_, _, retN X145 hx (t := .boolean) Bd.returns (by simp) (hb hby at_165) hr, hrun, hended, _, _, rfl, ⟨rfl, N145⟩, ⟨_, rfl⟩, hW, hsame.mono (by decide) (by decide)⟩
    · rw [hqp2]
      show Goes p e below (s₁.setTop (mkF m 15 #[iv p1, iv p2, iv 0, .unset, .unset, .unset, .unset, .unset, .unset, .unset, .unset] [(.int 1)])) _
      refine Goes.by (fun _ kz => XS.ifNo X0.here hx rfl (hb hby at_15) rfl ((if0 _ _).trans (feq (by decide : ¬ ((1 : Int32) = (0 : Int32)))).1) (XS.iconst X0.here hx rfl (hb hby at_18) (XS.goto X0.here hx rfl (pc0 := 19) (pc' := 23) rfl (hb hby at_19) (by decide) (by decide) kz))) ?_
      show Goes p e below (s₁.setTop (mkF m 23 #[iv p1, iv p2, iv 0, .unset, .unset, .unset, .unset, .unset, .unset, .unset, .unset] [(.int 1)])) _
      refine Goes.by (fun _ kz => XS.istoreN X0.here hx rfl (hb hby at_23) rfl (l' := #[iv p1, iv p2, iv 0, iv 1, .unset, .unset, .unset, .unset, .unset, .unset, .unset]) rfl kz) ?_
      obtain ⟨T147, h147, X147, e147, E147, A147, D147, -, st147⟩ := newO X0 hx hZ hown (hw _ (List.mem_of_getElem? (i := 0) rfl)) (hw _ (List.mem_of_getElem? (i := 1) rfl)) (hw _ (List.mem_of_getElem? (i := 2) rfl)) e0 (g := (mkF m 24 #[iv p1, iv p2, iv 0, iv 1, .unset, .unset, .unset, .unset, .unset, .unset, .unset] [])) rfl (hb hby at_24) (by decide) (by decide)
      obtain ⟨b147, g147⟩ : ∃ z, z = h0.size := ⟨_, rfl⟩
      rw [← g147] at A147 D147 st147
      have g_b147 : n0 ≤ b147 := Nat.le_trans Z0 (Nat.le_of_eq g147.symm)
      have sz_b147 : h0.size ≤ b147 := Nat.le_of_eq g147.symm
      have F147_rules : Fld Z h147 b147 "com/example/entail/entail/model/EntrySettings" "rules" "Ljava/util/List;" .null := D147 (Or.inr (hw _ (List.mem_of_getElem? (i := 34) rfl))) (ty := (.object "java/util/List")) (by decide)
      have F147_rulesView : Fld Z h147 b147 "com/example/entail/entail/model/EntrySettings" "rulesView" "Ljava/util/List;" .null := D147 (Or.inr (hw _ (List.mem_of_getElem? (i := 79) rfl))) (ty := (.object "java/util/List")) (by decide)
      have F147_blockedTrusteesView : Fld Z h147 b147 "com/example/entail/entail/model/EntrySettings" "blockedTrusteesView" "Ljava/util/Set;" .null := D147 (Or.inl (hw _ (List.mem_of_getElem? (i := 87) rfl))) (ty := (.object "java/util/Set")) (by decide)
      have F147_blocks : Fld Z h147 b147 "com/example/entail/entail/model/EntrySettings" "blocks" "Z" (.int 0) := D147 (Or.inl (hw _ (List.mem_of_getElem? (i := 94) rfl))) (ty := .boolean) (by decide)
      have K147 : Keep h0 h147 [] := Keep.ext (Keep.refl h0 []) E147
      have Z147 : n0 ≤ h147.size := Nat.le_trans Z0 E147.1
      refine Goes.by st147 ?_
      refine Goes.by (fun _ kz => XS.dup X147.here hx rfl (hb hby at_27) rfl rfl kz) ?_
      have f246 := (S1.ext E147)
      have f247 := (S2.ext E147)
      obtain ⟨_, _, ⟨T248, L248, k248, n248⟩, -, X248, ⟨Lc248, hQ248, l248, y248, z248⟩, st248⟩ := X147.specialBack hx (y := (⟨"com/example/entail/entail/model/EntrySettings", "<init>", "()V"⟩ : MethodName)) rfl hown (mvT hZ (hw _ (List.mem_of_getElem? (i := 3) rfl))) (mvT hZ (hw _ (List.mem_of_getElem? (i := 4) rfl))) (mvT hZ (hw _ (List.mem_of_getElem? (i := 5) rfl))) (by decide) (backOf (W := 1) (r1_147 l Z a0 hw [] h147 n0 Z147 mA mL mR q1 q2 b147 f246 f247 A147 F147_rules F147_rulesView F147_blockedTrusteesView F147_blocks MA ML MR g_b147) hZ (hw _ (List.mem_of_getElem? (i := 5) rfl)) (hw _ (List.mem_of_getElem? (i := 2) rfl)) (by decide) (by decide)) (g := (mkF m 28 #[iv p1, iv p2, iv 0, iv 1, .unset, .unset, .unset, .unset, .unset, .unset, .unset] [(.ref b147), (.ref b147)])) rfl (by rw [hml]; rfl) (Steps.refl _) (a := b147) (argsL := []) (rest := [(.ref b147)]) (lenOf pd0 rfl) rfl (by show 2 * 0 + _ ≤ _; exact Nat.le_of_eq rfl) (hb hby at_28) (fun _ _ => ⟨rfl, e147, (by decide : 1 + 2 ≤ _), (by decide : 5 + 5 ≤ _)⟩)
      dsimp only [Pt.U, Pt.locs, Pt.cells, Pt.slots] at X248 l248 y248 z248 st248 hQ248
      subst l248 y248 z248
      rcases hQ248 with hQ248 | hQ248 | hQ248
      · obtain ⟨b151_248, rfl, Nq248, Kq248, sq248_b151, fq248_0, fq248_1, fq248_2, fq248_3, fq248_4, fq248_5, fq248_6, hc248_202_178⟩ := hQ248
        have K248 : Keep h0 T248.heap [] := Keep.trans K147 Kq248 (allS (Or.inr sz_b147) all0)
        have Z248 : n0 ≤ T248.heap.size := Nat.le_trans Z147 Kq248.1
        have ne248_b151_b147 : b147 ≠ b151_248 := Nat.ne_of_lt (Nat.lt_of_lt_of_le A147.lt sq248_b151)
        have g_b151_248 : n0 ≤ b151_248 := Nat.le_trans Z147 sq248_b151
        have sz_b151_248 : h0.size ≤ b151_248 := Nat.le_trans K147.1 sq248_b151
        have N248 := Fr.app N0 Nq248
        refine Goes.tr st248 ?_
        refine Goes.by (fun _ kz => XS.astore X248.here hx rfl (hb hby at_31) rfl rfl (l' := #[iv p1, iv p2, iv 0, iv 1, rv b147, .unset, .unset, .unset, .unset, .unset, .unset]) rfl (XS.aload X248.here hx rfl (hb hby at_33) rfl rfl kz)) ?_
        have f253 := (A147.keep Kq248)
        obtain ⟨cq252, kq252, q252a, q252b, q252c⟩ := isOf hZ rfl f253
        obtain ⟨_, _, ⟨T252, L252, k252, n252⟩, -, X252, ⟨Lc252, hQ252, l252, y252, z252⟩, st252⟩ := X248.virtualBack hx (y := (⟨"com/example/entail/entail/model/EntrySettings", "blocks", "()Z"⟩ : MethodName)) (z := (⟨"com/example/entail/entail/model/EntrySettings", "blocks", "()Z"⟩ : MethodName)) hown (mvT hZ (hw _ (List.mem_of_getElem? (i := 88) rfl))) (mvT hZ (hw _ (List.mem_of_getElem? (i := 89) rfl))) (notFace_of_selects (args := #[]) (mvT hZ (hw _ (List.mem_of_getElem? (i := 91) rfl)))) (mvT hZ (hw _ (List.mem_of_getElem? (i := 91) rfl))) (mvT hZ (hw _ (List.mem_of_getElem? (i := 90) rfl))) (by decide) (backOf (W := 0) (r11_248 l Z a0 hw [] T248.heap n0 Z248 b147 fq248_3) hZ (hw _ (List.mem_of_getElem? (i := 92) rfl)) (hw _ (List.mem_of_getElem? (i := 2) rfl)) (by decide) (by decide)) q252a q252c (g := (mkF m 35 #[iv p1, iv p2, iv 0, iv 1, rv b147, .unset, .unset, .unset, .unset, .unset, .unset] [(.ref b147)])) rfl (by rw [hml]; rfl) (Steps.refl _) (argsL := []) (rest := []) (lenOf pd5 rfl) rfl (by show 2 * 0 + _ ≤ _; exact Nat.le_of_eq rfl) (hb hby at_35) (fun _ _ => ⟨rfl, rfl, (by decide : 3 + 0 ≤ _), (by decide : 10 + 0 ≤ _)⟩)
        dsimp only [Pt.U, Pt.locs, Pt.cells, Pt.slots] at X252 l252 y252 z252 st252 hQ252
        subst l252 y252 z252
        obtain ⟨rfl, Nq252, e252⟩ := hQ252
        have N252 := Fr.app N248 Nq252
        refine Goes.tr st252 ?_
        refine Goes.by (fun _ kz => XS.istore X252.here hx rfl (hb hby at_38) rfl (l' := #[iv p1, iv p2, iv 0, iv 1, rv b147, iv 0, .unset, .unset, .unset, .unset, .unset]) rfl (XS.aload X252.here hx rfl (hb hby at_40) rfl rfl (XS.iloadN X252.here hx rfl (hb hby at_42) rfl kz))) ?_
        obtain ⟨cq261, kq261, q261a, q261b, q261c⟩ := isOf hZ e252 f253
        obtain ⟨_, _, ⟨T261, L261, k261, n261⟩, -, X261, ⟨Lc261, hQ261, l261, y261, z261⟩, st261⟩ := X252.virtualBack hx (y := (⟨"com/example/entail/entail/model/EntrySettings", "setBlocks", "(Z)Z"⟩ : MethodName)) (z := (⟨"com/example/entail/entail/model/EntrySettings", "setBlocks", "(Z)Z"⟩ : MethodName)) hown (mvT hZ (hw _ (List.mem_of_getElem? (i := 95) rfl))) (mvT hZ (hw _ (List.mem_of_getElem? (i := 96) rfl))) (notFace_of_selects (args := #[]) (mvT hZ (hw _ (List.mem_of_getElem? (i := 98) rfl)))) (mvT hZ (hw _ (List.mem_of_getElem? (i := 98) rfl))) (mvT hZ (hw _ (List.mem_of_getElem? (i := 97) rfl))) (by decide) (backOf (W := 0) (r12_253 l Z a0 hw [] T248.heap n0 Z248 q2 b147 b151_248 f253 fq248_0 fq248_1 fq248_2 fq248_3 g_b147) hZ (hw _ (List.mem_of_getElem? (i := 99) rfl)) (hw _ (List.mem_of_getElem? (i := 2) rfl)) (by decide) (by decide)) q261a q261c (g := (mkF m 43 #[iv p1, iv p2, iv 0, iv 1, rv b147, iv 0, .unset, .unset, .unset, .unset, .unset] [(.int 0), (.ref b147)])) rfl (by rw [hml]; rfl) (Steps.refl _) (argsL := [(.int 0)]) (rest := []) (lenOf pd6 rfl) rfl (by show 2 * 0 + _ ≤ _; exact Nat.le_of_eq rfl) (hb hby at_43) (fun _ _ => ⟨rfl, e252, (by decide : 3 + 0 ≤ _), (by decide : 10 + 0 ≤ _)⟩)
        dsimp only [Pt.U, Pt.locs, Pt.cells, Pt.slots] at X261 l261 y261 z261 st261 hQ261
        subst l261 y261 z261
        obtain ⟨rfl, Nq261, Kq261, fq261_0, fq261_1, fq261_2, fq261_3⟩ := hQ261
        have K261 : Keep h0 T261.heap [] := Keep.trans K248 Kq261 (allS (Or.inr sz_b147) all0)
        have Z261 : n0 ≤ T261.heap.size := Nat.le_trans Z248 Kq261.1
        have N261 := Fr.app N252 Nq261
        refine Goes.tr st261 ?_
        refine Goes.by (fun _ kz => XS.istore X261.here hx rfl (hb hby at_46) rfl (l' := #[iv p1, iv p2, iv 0, iv 1, rv b147, iv 0, iv 0, .unset, .unset, .unset, .unset]) rfl (XS.aload X261.here hx rfl (hb hby at_48) rfl rfl kz)) ?_
        have f263 := (f253.keep Kq261)
        obtain ⟨cq262, kq262, q262a, q262b, q262c⟩ := isOf hZ rfl f263
        obtain ⟨_, _, ⟨T262, L262, k262, n262⟩, -, X262, ⟨Lc262, hQ262, l262, y262, z262⟩, st262⟩ := X261.virtualBack hx (y := (⟨"com/example/entail/entail/model/EntrySettings", "blocks", "()Z"⟩ : MethodName)) (z := (⟨"com/example/entail/entail/model/EntrySettings", "blocks", "()Z"⟩ : MethodName)) hown (mvT hZ (hw _ (List.mem_of_getElem? (i := 88) rfl))) (mvT hZ (hw _ (List.mem_of_getElem? (i := 89) rfl))) (notFace_of_selects (args := #[]) (mvT hZ (hw _ (List.mem_of_getElem? (i := 91) rfl)))) (mvT hZ (hw _ (List.mem_of_getElem? (i := 91) rfl))) (mvT hZ (hw _ (List.mem_of_getElem? (i := 90) rfl))) (by decide) (backOf (W := 0) (r11_248 l Z a0 hw [] T261.heap n0 Z261 b147 fq261_3) hZ (hw _ (List.mem_of_getElem? (i := 92) rfl)) (hw _ (List.mem_of_getElem? (i := 2) rfl)) (by decide) (by decide)) q262a q262c (g := (mkF m 50 #[iv p1, iv p2, iv 0, iv 1, rv b147, iv 0, iv 0, .unset, .unset, .unset, .unset] [(.ref b147)])) rfl (by rw [hml]; rfl) (Steps.refl _) (argsL := []) (rest := []) (lenOf pd5 rfl) rfl (by show 2 * 0 + _ ≤ _; exact Nat.le_of_eq rfl) (hb hby at_50) (fun _ _ => ⟨rfl, rfl, (by decide : 3 + 0 ≤ _), (by decide : 10 + 0 ≤ _)⟩)
        dsimp only [Pt.U, Pt.locs, Pt.cells, Pt.slots] at X262 l262 y262 z262 st262 hQ262
        subst l262 y262 z262
        obtain ⟨rfl, Nq262, e262⟩ := hQ262
        have N262 := Fr.app N261 Nq262
        refine Goes.tr st262 ?_
        refine Goes.by (fun _ kz => XS.istore X262.here hx rfl (hb hby at_53) rfl (l' := #[iv p1, iv p2, iv 0, iv 1, rv b147, iv 0, iv 0, iv 0, .unset, .unset, .unset]) rfl (XS.aload X262.here hx rfl (hb hby at_55) rfl rfl (XS.iloadN X262.here hx rfl (hb hby at_57) rfl kz))) ?_
        obtain ⟨cq271, kq271, q271a, q271b, q271c⟩ := isOf hZ e262 f263
        obtain ⟨_, _, ⟨T271, L271, k271, n271⟩, -, X271, ⟨Lc271, hQ271, l271, y271, z271⟩, st271⟩ := X262.virtualBack hx (y := (⟨"com/example/entail/entail/model/EntrySettings", "setBlocks", "(Z)Z"⟩ : MethodName)) (z := (⟨"com/example/entail/entail/model/EntrySettings", "setBlocks", "(Z)Z"⟩ : MethodName)) hown (mvT hZ (hw _ (List.mem_of_getElem? (i := 95) rfl))) (mvT hZ (hw _ (List.mem_of_getElem? (i := 96) rfl))) (notFace_of_selects (args := #[]) (mvT hZ (hw _ (List.mem_of_getElem? (i := 98) rfl)))) (mvT hZ (hw _ (List.mem_of_getElem? (i := 98) rfl))) (mvT hZ (hw _ (List.mem_of_getElem? (i := 97) rfl))) (by decide) (backOf (W := 0) (r12_263 l Z a0 hw [] T261.heap n0 Z261 q2 b147 b151_248 f263 fq261_0 fq261_1 fq261_2 fq261_3 g_b147) hZ (hw _ (List.mem_of_getElem? (i := 99) rfl)) (hw _ (List.mem_of_getElem? (i := 2) rfl)) (by decide) (by decide)) q271a q271c (g := (mkF m 58 #[iv p1, iv p2, iv 0, iv 1, rv b147, iv 0, iv 0, iv 0, .unset, .unset, .unset] [(.int 1), (.ref b147)])) rfl (by rw [hml]; rfl) (Steps.refl _) (argsL := [(.int 1)]) (rest := []) (lenOf pd6 rfl) rfl (by show 2 * 0 + _ ≤ _; exact Nat.le_of_eq rfl) (hb hby at_58) (fun _ _ => ⟨rfl, e262, (by decide : 3 + 0 ≤ _), (by decide : 10 + 0 ≤ _)⟩)
        dsimp only [Pt.U, Pt.locs, Pt.cells, Pt.slots] at X271 l271 y271 z271 st271 hQ271
        subst l271 y271 z271
        obtain ⟨rfl, Nq271, Kq271, fq271_0, fq271_1, fq271_2, fq271_3⟩ := hQ271
        have K271 : Keep h0 T271.heap [] := Keep.trans K261 Kq271 (allS (Or.inr sz_b147) all0)
        have Z271 : n0 ≤ T271.heap.size := Nat.le_trans Z261 Kq271.1
        have N271 := Fr.app N262 Nq271
        refine Goes.tr st271 ?_
        refine Goes.by (fun _ kz => XS.istore X271.here hx rfl (hb hby at_61) rfl (l' := #[iv p1, iv p2, iv 0, iv 1, rv b147, iv 0, iv 0, iv 0, iv 1, .unset, .unset]) rfl (XS.aload X271.here hx rfl (hb hby at_63) rfl rfl kz)) ?_
        have f276 := (f263.keep Kq271)
        obtain ⟨cq275, kq275, q275a, q275b, q275c⟩ := isOf hZ rfl f276
        obtain ⟨_, _, ⟨T275, L275, k275, n275⟩, -, X275, ⟨Lc275, hQ275, l275, y275, z275⟩, st275⟩ := X271.virtualBack hx (y := (⟨"com/example/entail/entail/model/EntrySettings", "blocks", "()Z"⟩ : MethodName)) (z := (⟨"com/example/entail/entail/model/EntrySettings", "blocks", "()Z"⟩ : MethodName)) hown (mvT hZ (hw _ (List.mem_of_getElem? (i := 88) rfl))) (mvT hZ (hw _ (List.mem_of_getElem? (i := 89) rfl))) (notFace_of_selects (args := #[]) (mvT hZ (hw _ (List.mem_of_getElem? (i := 91) rfl)))) (mvT hZ (hw _ (List.mem_of_getElem? (i := 91) rfl))) (mvT hZ (hw _ (List.mem_of_getElem? (i := 90) rfl))) (by decide) (backOf (W := 0) (r11_271 l Z a0 hw [] T271.heap n0 Z271 b147 fq271_3) hZ (hw _ (List.mem_of_getElem? (i := 92) rfl)) (hw _ (List.mem_of_getElem? (i := 2) rfl)) (by decide) (by decide)) q275a q275c (g := (mkF m 65 #[iv p1, iv p2, iv 0, iv 1, rv b147, iv 0, iv 0, iv 0, iv 1, .unset, .unset] [(.ref b147)])) rfl (by rw [hml]; rfl) (Steps.refl _) (argsL := []) (rest := []) (lenOf pd5 rfl) rfl (by show 2 * 0 + _ ≤ _; exact Nat.le_of_eq rfl) (hb hby at_65) (fun _ _ => ⟨rfl, rfl, (by decide : 3 + 0 ≤ _), (by decide : 10 + 0 ≤ _)⟩)
        dsimp only [Pt.U, Pt.locs, Pt.cells, Pt.slots] at X275 l275 y275 z275 st275 hQ275
        subst l275 y275 z275
        obtain ⟨rfl, Nq275, e275⟩ := hQ275
        have N275 := Fr.app N271 Nq275
        refine Goes.tr st275 ?_
        refine Goes.by (fun _ kz => XS.istore X275.here hx rfl (hb hby at_68) rfl (l' := #[iv p1, iv p2, iv 0, iv 1, rv b147, iv 0, iv 0, iv 0, iv 1, iv 1, .unset]) rfl (XS.iload X275.here hx rfl (hb hby at_70) rfl (XS.ifNo X275.here hx rfl (hb hby at_72) rfl ((if0 _ _).trans (teq (by decide : (0 : Int32) = (0 : Int32))).2) kz))) ?_
        show Goes p e below (T275.setTop (mkF m 75 #[iv p1, iv p2, iv 0, iv 1, rv b147, iv 0, iv 0, iv 0, iv 1, iv 1, .unset] [])) _
        refine Goes.by (fun _ kz => XS.iconst X275.here hx rfl (hb hby at_75) (XS.goto X275.here hx rfl (pc0 := 76) (pc' := 80) rfl (hb hby at_76) (by decide) (by decide) (XS.istore X275.here hx rfl (hb hby at_80) rfl (l' := #[iv p1, iv p2, iv 0, iv 1, rv b147, iv 0, iv 0, iv 0, iv 1, iv 1, iv 1]) rfl kz))) ?_
        show Goes p e below (T275.setTop (mkF m 82 #[iv p1, iv p2, iv 0, iv 1, rv b147, iv 0, iv 0, iv 0, iv 1, iv 1, iv 1] [])) _
        refine Goes.by (fun _ kz => XS.iload X275.here hx rfl (hb hby at_82) rfl (XS.ifNo X275.here hx rfl (hb hby at_84) rfl ((if0 _ _).trans (feq (by decide : ¬ ((1 : Int32) = (0 : Int32)))).1) (XS.iload X275.here hx rfl (hb hby at_87) rfl kz))) ?_
        show Goes p e below (T275.setTop (mkF m 89 #[iv p1, iv p2, iv 0, iv 1, rv b147, iv 0, iv 0, iv 0, iv 1, iv 1, iv 1] [(.int 0)])) _
        refine Goes.by (fun _ kz => XS.iloadN X275.here hx rfl (hb hby at_89) rfl (XS.icmpNo X275.here hx rfl (hb hby at_90) rfl (teq (by decide : (0 : Int32) = (0 : Int32))).2 (XS.iconst X275.here hx rfl (hb hby at_93) kz))) ?_
        show Goes p e below (T275.setTop (mkF m 94 #[iv p1, iv p2, iv 0, iv 1, rv b147, iv 0, iv 0, iv 0, iv 1, iv 1, iv 1] [(.int 1)])) _
        refine Goes.by (fun _ kz => XS.goto X275.here hx rfl (pc0 := 94) (pc' := 98) rfl (hb hby at_94) (by decide) (by decide) (XS.istore X275.here hx rfl (hb hby at_98) rfl (l' := #[iv p1, iv p2, iv 0, iv 1, rv b147, iv 0, iv 0, iv 0, iv 1, iv 1, iv 1]) rfl (XS.iload X275.here hx rfl (hb hby at_100) rfl kz))) ?_
        show Goes p e below (T275.setTop (mkF m 102 #[iv p1, iv p2, iv 0, iv 1, rv b147, iv 0, iv 0, iv 0, iv 1, iv 1, iv 1] [(.int 1)])) _
        refine Goes.by (fun _ kz => XS.ifNo X275.here hx rfl (hb hby at_102) rfl ((if0 _ _).trans (feq (by decide : ¬ ((1 : Int32) = (0 : Int32)))).1) (XS.iload X275.here hx rfl (hb hby at_105) rfl (XS.iloadN X275.here hx rfl (hb hby at_107) rfl kz))) ?_
        show Goes p e below (T275.setTop (mkF m 108 #[iv p1, iv p2, iv 0, iv 1, rv b147, iv 0, iv 0, iv 0, iv 1, iv 1, iv 1] [(.int 0), (.int 0)])) _
        refine Goes.by (fun _ kz => XS.icmpNo X275.here hx rfl (hb hby at_108) rfl (teq (by decide : (0 : Int32) = (0 : Int32))).2 (XS.iconst X275.here hx rfl (hb hby at_111) (XS.goto X275.here hx rfl (pc0 := 112) (pc' := 116) rfl (hb hby at_112) (by decide) (by decide) kz))) ?_
        show Goes p e below (T275.setTop (mkF m 116 #[iv p1, iv p2, iv 0, iv 1, rv b147, iv 0, iv 0, iv 0, iv 1, iv 1, iv 1] [(.int 1)])) _
        refine Goes.by (fun _ kz => XS.istore X275.here hx rfl (hb hby at_116) rfl (l' := #[iv p1, iv p2, iv 0, iv 1, rv b147, iv 0, iv 0, iv 0, iv 1, iv 1, iv 1]) rfl (XS.iload X275.here hx rfl (hb hby at_118) rfl (XS.ifNo X275.here hx rfl (hb hby at_120) rfl ((if0 _ _).trans (feq (by decide : ¬ ((1 : Int32) = (0 : Int32)))).1) kz))) ?_
        show Goes p e below (T275.setTop (mkF m 123 #[iv p1, iv p2, iv 0, iv 1, rv b147, iv 0, iv 0, iv 0, iv 1, iv 1, iv 1] [])) _
        refine Goes.by (fun _ kz => XS.iload X275.here hx rfl (hb hby at_123) rfl (XS.iloadN X275.here hx rfl (hb hby at_125) rfl (XS.iloadN X275.here hx rfl (hb hby at_126) rfl kz))) ?_
        show Goes p e below (T275.setTop (mkF m 127 #[iv p1, iv p2, iv 0, iv 1, rv b147, iv 0, iv 0, iv 0, iv 1, iv 1, iv 1] [(.int 1), (.int 0), (.int 1)])) _
        refine Goes.by (fun _ kz => XS.icmpNo X275.here hx rfl (hb hby at_127) rfl (feq (by decide : ¬ ((0 : Int32) = (1 : Int32)))).1 (XS.iconst X275.here hx rfl (hb hby at_130) (XS.goto X275.here hx rfl (pc0 := 131) (pc' := 135) rfl (hb hby at_131) (by decide) (by decide) kz))) ?_
        show Goes p e below (T275.setTop (mkF m 135 #[iv p1, iv p2, iv 0, iv 1, rv b147, iv 0, iv 0, iv 0, iv 1, iv 1, iv 1] [(.int 1), (.int 1)])) _
        refine Goes.by (fun _ kz => XS.icmpNo X275.here hx rfl (hb hby at_135) rfl (teq (by decide : (1 : Int32) = (1 : Int32))).2 (XS.iconst X275.here hx rfl (hb hby at_138) (XS.goto X275.here hx rfl (pc0 := 139) (pc' := 143) rfl (hb hby at_139) (by decide) (by decide) kz))) ?_
        show Goes p e below (T275.setTop (mkF m 143 #[iv p1, iv p2, iv 0, iv 1, rv b147, iv 0, iv 0, iv 0, iv 1, iv 1, iv 1] [(.int 1)])) _
        refine Goes.by (fun _ kz => XS.istore X275.here hx rfl (hb hby at_143) rfl (l' := #[iv p1, iv p2, iv 0, iv 1, rv b147, iv 0, iv 0, iv 0, iv 1, iv 1, iv 1]) rfl (XS.iload X275.here hx rfl (hb hby at_145) rfl (XS.ifNo X275.here hx rfl (hb hby at_147) rfl ((if0 _ _).trans (feq (by decide : ¬ ((1 : Int32) = (0 : Int32)))).1) kz))) ?_
        show Goes p e below (T275.setTop (mkF m 150 #[iv p1, iv p2, iv 0, iv 1, rv b147, iv 0, iv 0, iv 0, iv 1, iv 1, iv 1] [])) _
        refine Goes.by (fun _ kz => XS.iload X275.here hx rfl (hb hby at_150) rfl (XS.iloadN X275.here hx rfl (hb hby at_152) rfl (XS.icmpNo X275.here hx rfl (hb hby at_153) rfl (teq (by decide : (1 : Int32) = (1 : Int32))).2 kz))) ?_
        show Goes p e below (T275.setTop (mkF m 156 #[iv p1, iv p2, iv 0, iv 1, rv b147, iv 0, iv 0, iv 0, iv 1, iv 1, iv 1] [])) _
        refine Goes.by (fun _ kz => XS.iconst X275.here hx rfl (hb hby at_156) (XS.goto X275.here hx rfl (pc0 := 157) (pc' := 161) rfl (hb hby at_157) (by decide) (by decide) (XS.istore X275.here hx rfl (hb hby at_161) rfl (l' := #[iv p1, iv p2, iv 0, iv 1, rv b147, iv 0, iv 0, iv 0, iv 1, iv 1, iv 1]) rfl kz))) ?_
        show Goes p e below (T275.setTop (mkF m 163 #[iv p1, iv p2, iv 0, iv 1, rv b147, iv 0, iv 0, iv 0, iv 1, iv 1, iv 1] [])) _
        refine Goes.by (fun _ kz => XS.iload X275.here hx rfl (hb hby at_163) rfl kz) ?_
        show Goes p e below (T275.setTop (mkF m 165 #[iv p1, iv p2, iv 0, iv 1, rv b147, iv 0, iv 0, iv 0, iv 1, iv 1, iv 1] [(.int 1)])) _
        obtain ⟨fs, hr, hrun, hended, hW, hsame⟩ := X275.leave (v := some (.int 1)) (fun h => by rw [Bd.returns] at h; cases h)
        exact ⟨_, _, retN X275 hx (t := .boolean) Bd.returns (by simp) (hb hby at_165) hr, hrun, hended, _, _, rfl, ⟨rfl, N275⟩, ⟨_, rfl⟩, hW, hsame.mono (by decide) (by decide)⟩
      · obtain ⟨b151_248, rfl, Nq248, Kq248, sq248_b151, fq248_0, fq248_1, fq248_2, fq248_3, fq248_4, fq248_5, fq248_6, hc248_202_178, hc248_202_181⟩ := hQ248
        have K248 : Keep h0 T248.heap [] := Keep.trans K147 Kq248 (allS (Or.inr sz_b147) all0)
        have Z248 : n0 ≤ T248.heap.size := Nat.le_trans Z147 Kq248.1
        have ne248_b151_b147 : b147 ≠ b151_248 := Nat.ne_of_lt (Nat.lt_of_lt_of_le A147.lt sq248_b151)
        have g_b151_248 : n0 ≤ b151_248 := Nat.le_trans Z147 sq248_b151
        have sz_b151_248 : h0.size ≤ b151_248 := Nat.le_trans K147.1 sq248_b151
        have N248 := Fr.app N0 Nq248
        refine Goes.tr st248 ?_
        refine Goes.by (fun _ kz => XS.astore X248.here hx rfl (hb hby at_31) rfl rfl (l' := #[iv p1, iv p2, iv 0, iv 1, rv b147, .unset, .unset, .unset, .unset, .unset, .unset]) rfl (XS.aload X248.here hx rfl (hb hby at_33) rfl rfl kz)) ?_
        have f278 := (A147.keep Kq248)
        obtain ⟨cq277, kq277, q277a, q277b, q277c⟩ := isOf hZ rfl f278
        obtain ⟨_, _, ⟨T277, L277, k277, n277⟩, -, X277, ⟨Lc277, hQ277, l277, y277, z277⟩, st277⟩ := X248.virtualBack hx (y := (⟨"com/example/entail/entail/model/EntrySettings", "blocks", "()Z"⟩ : MethodName)) (z := (⟨"com/example/entail/entail/model/EntrySettings", "blocks", "()Z"⟩ : MethodName)) hown (mvT hZ (hw _ (List.mem_of_getElem? (i := 88) rfl))) (mvT hZ (hw _ (List.mem_of_getElem? (i := 89) rfl))) (notFace_of_selects (args := #[]) (mvT hZ (hw _ (List.mem_of_getElem? (i := 91) rfl)))) (mvT hZ (hw _ (List.mem_of_getElem? (i := 91) rfl))) (mvT hZ (hw _ (List.mem_of_getElem? (i := 90) rfl))) (by decide) (backOf (W := 0) (r11_248 l Z a0 hw [] T248.heap n0 Z248 b147 fq248_3) hZ (hw _ (List.mem_of_getElem? (i := 92) rfl)) (hw _ (List.mem_of_getElem? (i := 2) rfl)) (by decide) (by decide)) q277a q277c (g := (mkF m 35 #[iv p1, iv p2, iv 0, iv 1, rv b147, .unset, .unset, .unset, .unset, .unset, .unset] [(.ref b147)])) rfl (by rw [hml]; rfl) (Steps.refl _) (argsL := []) (rest := []) (lenOf pd5 rfl) rfl (by show 2 * 0 + _ ≤ _; exact Nat.le_of_eq rfl) (hb hby at_35) (fun _ _ => ⟨rfl, rfl, (by decide : 3 + 0 ≤ _), (by decide : 10 + 0 ≤ _)⟩)
        dsimp only [Pt.U, Pt.locs, Pt.cells, Pt.slots] at X277 l277 y277 z277 st277 hQ277
        subst l277 y277 z277
        obtain ⟨rfl, Nq277, e277⟩ := hQ277
        have N277 := Fr.app N248 Nq277
        refine Goes.tr st277 ?_
        refine Goes.by (fun _ kz => XS.istore X277.here hx rfl (hb hby at_38) rfl (l' := #[iv p1, iv p2, iv 0, iv 1, rv b147, iv 0, .unset, .unset, .unset, .unset, .unset]) rfl (XS.aload X277.here hx rfl (hb hby at_40) rfl rfl (XS.iloadN X277.here hx rfl (hb hby at_42) rfl kz))) ?_
        obtain ⟨cq279, kq279, q279a, q279b, q279c⟩ := isOf hZ e277 f278
        obtain ⟨_, _, ⟨T279, L279, k279, n279⟩, -, X279, ⟨Lc279, hQ279, l279, y279, z279⟩, st279⟩ := X277.virtualBack hx (y := (⟨"com/example/entail/entail/model/EntrySettings", "setBlocks", "(Z)Z"⟩ : MethodName)) (z := (⟨"com/example/entail/entail/model/EntrySettings", "setBlocks", "(Z)Z"⟩ : MethodName)) hown (mvT hZ (hw _ (List.mem_of_getElem? (i := 95) rfl))) (mvT hZ (hw _ (List.mem_of_getElem? (i := 96) rfl))) (notFace_of_selects (args := #[]) (mvT hZ (hw _ (List.mem_of_getElem? (i := 98) rfl)))) (mvT hZ (hw _ (List.mem_of_getElem? (i := 98) rfl))) (mvT hZ (hw _ (List.mem_of_getElem? (i := 97) rfl))) (by decide) (backOf (W := 0) (r12_253 l Z a0 hw [] T248.heap n0 Z248 q2 b147 b151_248 f278 fq248_0 fq248_1 fq248_2 fq248_3 g_b147) hZ (hw _ (List.mem_of_getElem? (i := 99) rfl)) (hw _ (List.mem_of_getElem? (i := 2) rfl)) (by decide) (by decide)) q279a q279c (g := (mkF m 43 #[iv p1, iv p2, iv 0, iv 1, rv b147, iv 0, .unset, .unset, .unset, .unset, .unset] [(.int 0), (.ref b147)])) rfl (by rw [hml]; rfl) (Steps.refl _) (argsL := [(.int 0)]) (rest := []) (lenOf pd6 rfl) rfl (by show 2 * 0 + _ ≤ _; exact Nat.le_of_eq rfl) (hb hby at_43) (fun _ _ => ⟨rfl, e277, (by decide : 3 + 0 ≤ _), (by decide : 10 + 0 ≤ _)⟩)
        dsimp only [Pt.U, Pt.locs, Pt.cells, Pt.slots] at X279 l279 y279 z279 st279 hQ279
        subst l279 y279 z279
        obtain ⟨rfl, Nq279, Kq279, fq279_0, fq279_1, fq279_2, fq279_3⟩ := hQ279
        have K279 : Keep h0 T279.heap [] := Keep.trans K248 Kq279 (allS (Or.inr sz_b147) all0)
        have Z279 : n0 ≤ T279.heap.size := Nat.le_trans Z248 Kq279.1
        have N279 := Fr.app N277 Nq279
        refine Goes.tr st279 ?_
        refine Goes.by (fun _ kz => XS.istore X279.here hx rfl (hb hby at_46) rfl (l' := #[iv p1, iv p2, iv 0, iv 1, rv b147, iv 0, iv 0, .unset, .unset, .unset, .unset]) rfl (XS.aload X279.here hx rfl (hb hby at_48) rfl rfl kz)) ?_
        have f281 := (f278.keep Kq279)
        obtain ⟨cq280, kq280, q280a, q280b, q280c⟩ := isOf hZ rfl f281
        obtain ⟨_, _, ⟨T280, L280, k280, n280⟩, -, X280, ⟨Lc280, hQ280, l280, y280, z280⟩, st280⟩ := X279.virtualBack hx (y := (⟨"com/example/entail/entail/model/EntrySettings", "blocks", "()Z"⟩ : MethodName)) (z := (⟨"com/example/entail/entail/model/EntrySettings", "blocks", "()Z"⟩ : MethodName)) hown (mvT hZ (hw _ (List.mem_of_getElem? (i := 88) rfl))) (mvT hZ (hw _ (List.mem_of_getElem? (i := 89) rfl))) (notFace_of_selects (args := #[]) (mvT hZ (hw _ (List.mem_of_getElem? (i := 91) rfl)))) (mvT hZ (hw _ (List.mem_of_getElem? (i := 91) rfl))) (mvT hZ (hw _ (List.mem_of_getElem? (i := 90) rfl))) (by decide) (backOf (W := 0) (r11_248 l Z a0 hw [] T279.heap n0 Z279 b147 fq279_3) hZ (hw _ (List.mem_of_getElem? (i := 92) rfl)) (hw _ (List.mem_of_getElem? (i := 2) rfl)) (by decide) (by decide)) q280a q280c (g := (mkF m 50 #[iv p1, iv p2, iv 0, iv 1, rv b147, iv 0, iv 0, .unset, .unset, .unset, .unset] [(.ref b147)])) rfl (by rw [hml]; rfl) (Steps.refl _) (argsL := []) (rest := []) (lenOf pd5 rfl) rfl (by show 2 * 0 + _ ≤ _; exact Nat.le_of_eq rfl) (hb hby at_50) (fun _ _ => ⟨rfl, rfl, (by decide : 3 + 0 ≤ _), (by decide : 10 + 0 ≤ _)⟩)
        dsimp only [Pt.U, Pt.locs, Pt.cells, Pt.slots] at X280 l280 y280 z280 st280 hQ280
        subst l280 y280 z280
        obtain ⟨rfl, Nq280, e280⟩ := hQ280
        have N280 := Fr.app N279 Nq280
        refine Goes.tr st280 ?_
        refine Goes.by (fun _ kz => XS.istore X280.here hx rfl (hb hby at_53) rfl (l' := #[iv p1, iv p2, iv 0, iv 1, rv b147, iv 0, iv 0, iv 0, .unset, .unset, .unset]) rfl (XS.aload X280.here hx rfl (hb hby at_55) rfl rfl (XS.iloadN X280.here hx rfl (hb hby at_57) rfl kz))) ?_
        obtain ⟨cq282, kq282, q282a, q282b, q282c⟩ := isOf hZ e280 f281
        obtain ⟨_, _, ⟨T282, L282, k282, n282⟩, -, X282, ⟨Lc282, hQ282, l282, y282, z282⟩, st282⟩ := X280.virtualBack hx (y := (⟨"com/example/entail/entail/model/EntrySettings", "setBlocks", "(Z)Z"⟩ : MethodName)) (z := (⟨"com/example/entail/entail/model/EntrySettings", "setBlocks", "(Z)Z"⟩ : MethodName)) hown (mvT hZ (hw _ (List.mem_of_getElem? (i := 95) rfl))) (mvT hZ (hw _ (List.mem_of_getElem? (i := 96) rfl))) (notFace_of_selects (args := #[]) (mvT hZ (hw _ (List.mem_of_getElem? (i := 98) rfl)))) (mvT hZ (hw _ (List.mem_of_getElem? (i := 98) rfl))) (mvT hZ (hw _ (List.mem_of_getElem? (i := 97) rfl))) (by decide) (backOf (W := 0) (r12_263 l Z a0 hw [] T279.heap n0 Z279 q2 b147 b151_248 f281 fq279_0 fq279_1 fq279_2 fq279_3 g_b147) hZ (hw _ (List.mem_of_getElem? (i := 99) rfl)) (hw _ (List.mem_of_getElem? (i := 2) rfl)) (by decide) (by decide)) q282a q282c (g := (mkF m 58 #[iv p1, iv p2, iv 0, iv 1, rv b147, iv 0, iv 0, iv 0, .unset, .unset, .unset] [(.int 1), (.ref b147)])) rfl (by rw [hml]; rfl) (Steps.refl _) (argsL := [(.int 1)]) (rest := []) (lenOf pd6 rfl) rfl (by show 2 * 0 + _ ≤ _; exact Nat.le_of_eq rfl) (hb hby at_58) (fun _ _ => ⟨rfl, e280, (by decide : 3 + 0 ≤ _), (by decide : 10 + 0 ≤ _)⟩)
        dsimp only [Pt.U, Pt.locs, Pt.cells, Pt.slots] at X282 l282 y282 z282 st282 hQ282
        subst l282 y282 z282
        obtain ⟨rfl, Nq282, Kq282, fq282_0, fq282_1, fq282_2, fq282_3⟩ := hQ282
        have K282 : Keep h0 T282.heap [] := Keep.trans K279 Kq282 (allS (Or.inr sz_b147) all0)
        have Z282 : n0 ≤ T282.heap.size := Nat.le_trans Z279 Kq282.1
        have N282 := Fr.app N280 Nq282
        refine Goes.tr st282 ?_
        refine Goes.by (fun _ kz => XS.istore X282.here hx rfl (hb hby at_61) rfl (l' := #[iv p1, iv p2, iv 0, iv 1, rv b147, iv 0, iv 0, iv 0, iv 1, .unset, .unset]) rfl (XS.aload X282.here hx rfl (hb hby at_63) rfl rfl kz)) ?_
        have f284 := (f281.keep Kq282)
        obtain ⟨cq283, kq283, q283a, q283b, q283c⟩ := isOf hZ rfl f284
        obtain ⟨_, _, ⟨T283, L283, k283, n283⟩, -, X283, ⟨Lc283, hQ283, l283, y283, z283⟩, st283⟩ := X282.virtualBack hx (y := (⟨"com/example/entail/entail/model/EntrySettings", "blocks", "()Z"⟩ : MethodName)) (z := (⟨"com/example/entail/entail/model/EntrySettings", "blocks", "()Z"⟩ : MethodName)) hown (mvT hZ (hw _ (List.mem_of_getElem? (i := 88) rfl))) (mvT hZ (hw _ (List.mem_of_getElem? (i := 89) rfl))) (notFace_of_selects (args := #[]) (mvT hZ (hw _ (List.mem_of_getElem? (i := 91) rfl)))) (mvT hZ (hw _ (List.mem_of_getElem? (i := 91) rfl))) (mvT hZ (hw _ (List.mem_of_getElem? (i := 90) rfl))) (by decide) (backOf (W := 0) (r11_271 l Z a0 hw [] T282.heap n0 Z282 b147 fq282_3) hZ (hw _ (List.mem_of_getElem? (i := 92) rfl)) (hw _ (List.mem_of_getElem? (i := 2) rfl)) (by decide) (by decide)) q283a q283c (g := (mkF m 65 #[iv p1, iv p2, iv 0, iv 1, rv b147, iv 0, iv 0, iv 0, iv 1, .unset, .unset] [(.ref b147)])) rfl (by rw [hml]; rfl) (Steps.refl _) (argsL := []) (rest := []) (lenOf pd5 rfl) rfl (by show 2 * 0 + _ ≤ _; exact Nat.le_of_eq rfl) (hb hby at_65) (fun _ _ => ⟨rfl, rfl, (by decide : 3 + 0 ≤ _), (by decide : 10 + 0 ≤ _)⟩)
        dsimp only [Pt.U, Pt.locs, Pt.cells, Pt.slots] at X283 l283 y283 z283 st283 hQ283
        subst l283 y283 z283
        obtain ⟨rfl, Nq283, e283⟩ := hQ283
        have N283 := Fr.app N282 Nq283
        refine Goes.tr st283 ?_
        refine Goes.by (fun _ kz => XS.istore X283.here hx rfl (hb hby at_68) rfl (l' := #[iv p1, iv p2, iv 0, iv 1, rv b147, iv 0, iv 0, iv 0, iv 1, iv 1, .unset]) rfl (XS.iload X283.here hx rfl (hb hby at_70) rfl (XS.ifNo X283.here hx rfl (hb hby at_72) rfl ((if0 _ _).trans (teq (by decide : (0 : Int32) = (0 : Int32))).2) kz))) ?_
        show Goes p e below (T283.setTop (mkF m 75 #[iv p1, iv p2, iv 0, iv 1, rv b147, iv 0, iv 0, iv 0, iv 1, iv 1, .unset] [])) _
        refine Goes.by (fun _ kz => XS.iconst X283.here hx rfl (hb hby at_75) (XS.goto X283.here hx rfl (pc0 := 76) (pc' := 80) rfl (hb hby at_76) (by decide) (by decide) (XS.istore X283.here hx rfl (hb hby at_80) rfl (l' := #[iv p1, iv p2, iv 0, iv 1, rv b147, iv 0, iv 0, iv 0, iv 1, iv 1, iv 1]) rfl kz))) ?_
        show Goes p e below (T283.setTop (mkF m 82 #[iv p1, iv p2, iv 0, iv 1, rv b147, iv 0, iv 0, iv 0, iv 1, iv 1, iv 1] [])) _
        refine Goes.by (fun _ kz => XS.iload X283.here hx rfl (hb hby at_82) rfl (XS.ifNo X283.here hx rfl (hb hby at_84) rfl ((if0 _ _).trans (feq (by decide : ¬ ((1 : Int32) = (0 : Int32)))).1) (XS.iload X283.here hx rfl (hb hby at_87) rfl kz))) ?_
        show Goes p e below (T283.setTop (mkF m 89 #[iv p1, iv p2, iv 0, iv 1, rv b147, iv 0, iv 0, iv 0, iv 1, iv 1, iv 1] [(.int 0)])) _
        refine Goes.by (fun _ kz => XS.iloadN X283.here hx rfl (hb hby at_89) rfl (XS.icmpNo X283.here hx rfl (hb hby at_90) rfl (teq (by decide : (0 : Int32) = (0 : Int32))).2 (XS.iconst X283.here hx rfl (hb hby at_93) kz))) ?_
        show Goes p e below (T283.setTop (mkF m 94 #[iv p1, iv p2, iv 0, iv 1, rv b147, iv 0, iv 0, iv 0, iv 1, iv 1, iv 1] [(.int 1)])) _
        refine Goes.by (fun _ kz => XS.goto X283.here hx rfl (pc0 := 94) (pc' := 98) rfl (hb hby at_94) (by decide) (by decide) (XS.istore X283.here hx rfl (hb hby at_98) rfl (l' := #[iv p1, iv p2, iv 0, iv 1, rv b147, iv 0, iv 0, iv 0, iv 1, iv 1, iv 1]) rfl (XS.iload X283.here hx rfl (hb hby at_100) rfl kz))) ?_
        show Goes p e below (T283.setTop (mkF m 102 #[iv p1, iv p2, iv 0, iv 1, rv b147, iv 0, iv 0, iv 0, iv 1, iv 1, iv 1] [(.int 1)])) _
        refine Goes.by (fun _ kz => XS.ifNo X283.here hx rfl (hb hby at_102) rfl ((if0 _ _).trans (feq (by decide : ¬ ((1 : Int32) = (0 : Int32)))).1) (XS.iload X283.here hx rfl (hb hby at_105) rfl (XS.iloadN X283.here hx rfl (hb hby at_107) rfl kz))) ?_
        show Goes p e below (T283.setTop (mkF m 108 #[iv p1, iv p2, iv 0, iv 1, rv b147, iv 0, iv 0, iv 0, iv 1, iv 1, iv 1] [(.int 0), (.int 0)])) _
        refine Goes.by (fun _ kz => XS.icmpNo X283.here hx rfl (hb hby at_108) rfl (teq (by decide : (0 : Int32) = (0 : Int32))).2 (XS.iconst X283.here hx rfl (hb hby at_111) (XS.goto X283.here hx rfl (pc0 := 112) (pc' := 116) rfl (hb hby at_112) (by decide) (by decide) kz))) ?_
        show Goes p e below (T283.setTop (mkF m 116 #[iv p1, iv p2, iv 0, iv 1, rv b147, iv 0, iv 0, iv 0, iv 1, iv 1, iv 1] [(.int 1)])) _
        refine Goes.by (fun _ kz => XS.istore X283.here hx rfl (hb hby at_116) rfl (l' := #[iv p1, iv p2, iv 0, iv 1, rv b147, iv 0, iv 0, iv 0, iv 1, iv 1, iv 1]) rfl (XS.iload X283.here hx rfl (hb hby at_118) rfl (XS.ifNo X283.here hx rfl (hb hby at_120) rfl ((if0 _ _).trans (feq (by decide : ¬ ((1 : Int32) = (0 : Int32)))).1) kz))) ?_
        show Goes p e below (T283.setTop (mkF m 123 #[iv p1, iv p2, iv 0, iv 1, rv b147, iv 0, iv 0, iv 0, iv 1, iv 1, iv 1] [])) _
        refine Goes.by (fun _ kz => XS.iload X283.here hx rfl (hb hby at_123) rfl (XS.iloadN X283.here hx rfl (hb hby at_125) rfl (XS.iloadN X283.here hx rfl (hb hby at_126) rfl kz))) ?_
        show Goes p e below (T283.setTop (mkF m 127 #[iv p1, iv p2, iv 0, iv 1, rv b147, iv 0, iv 0, iv 0, iv 1, iv 1, iv 1] [(.int 1), (.int 0), (.int 1)])) _
        refine Goes.by (fun _ kz => XS.icmpNo X283.here hx rfl (hb hby at_127) rfl (feq (by decide : ¬ ((0 : Int32) = (1 : Int32)))).1 (XS.iconst X283.here hx rfl (hb hby at_130) (XS.goto X283.here hx rfl (pc0 := 131) (pc' := 135) rfl (hb hby at_131) (by decide) (by decide) kz))) ?_
        show Goes p e below (T283.setTop (mkF m 135 #[iv p1, iv p2, iv 0, iv 1, rv b147, iv 0, iv 0, iv 0, iv 1, iv 1, iv 1] [(.int 1), (.int 1)])) _
        refine Goes.by (fun _ kz => XS.icmpNo X283.here hx rfl (hb hby at_135) rfl (teq (by decide : (1 : Int32) = (1 : Int32))).2 (XS.iconst X283.here hx rfl (hb hby at_138) (XS.goto X283.here hx rfl (pc0 := 139) (pc' := 143) rfl (hb hby at_139) (by decide) (by decide) kz))) ?_
        show Goes p e below (T283.setTop (mkF m 143 #[iv p1, iv p2, iv 0, iv 1, rv b147, iv 0, iv 0, iv 0, iv 1, iv 1, iv 1] [(.int 1)])) _
        refine Goes.by (fun _ kz => XS.istore X283.here hx rfl (hb hby at_143) rfl (l' := #[iv p1, iv p2, iv 0, iv 1, rv b147, iv 0, iv 0, iv 0, iv 1, iv 1, iv 1]) rfl (XS.iload X283.here hx rfl (hb hby at_145) rfl (XS.ifNo X283.here hx rfl (hb hby at_147) rfl ((if0 _ _).trans (feq (by decide : ¬ ((1 : Int32) = (0 : Int32)))).1) kz))) ?_
        show Goes p e below (T283.setTop (mkF m 150 #[iv p1, iv p2, iv 0, iv 1, rv b147, iv 0, iv 0, iv 0, iv 1, iv 1, iv 1] [])) _
        refine Goes.by (fun _ kz => XS.iload X283.here hx rfl (hb hby at_150) rfl (XS.iloadN X283.here hx rfl (hb hby at_152) rfl (XS.icmpNo X283.here hx rfl (hb hby at_153) rfl (teq (by decide : (1 : Int32) = (1 : Int32))).2 kz))) ?_
        show Goes p e below (T283.setTop (mkF m 156 #[iv p1, iv p2, iv 0, iv 1, rv b147, iv 0, iv 0, iv 0, iv 1, iv 1, iv 1] [])) _
        refine Goes.by (fun _ kz => XS.iconst X283.here hx rfl (hb hby at_156) (XS.goto X283.here hx rfl (pc0 := 157) (pc' := 161) rfl (hb hby at_157) (by decide) (by decide) (XS.istore X283.here hx rfl (hb hby at_161) rfl (l' := #[iv p1, iv p2, iv 0, iv 1, rv b147, iv 0, iv 0, iv 0, iv 1, iv 1, iv 1]) rfl kz))) ?_
        show Goes p e below (T283.setTop (mkF m 163 #[iv p1, iv p2, iv 0, iv 1, rv b147, iv 0, iv 0, iv 0, iv 1, iv 1, iv 1] [])) _
        refine Goes.by (fun _ kz => XS.iload X283.here hx rfl (hb hby at_163) rfl kz) ?_
        show Goes p e below (T283.setTop (mkF m 165 #[iv p1, iv p2, iv 0, iv 1, rv b147, iv 0, iv 0, iv 0, iv 1, iv 1, iv 1] [(.int 1)])) _
        obtain ⟨fs, hr, hrun, hended, hW, hsame⟩ := X283.leave (v := some (.int 1)) (fun h => by rw [Bd.returns] at h; cases h)
        exact ⟨_, _, retN X283 hx (t := .boolean) Bd.returns (by simp) (hb hby at_165) hr, hrun, hended, _, _, rfl, ⟨rfl, N283⟩, ⟨_, rfl⟩, hW, hsame.mono (by decide) (by decide)⟩
      · obtain ⟨b151_248, b183_202_248, rfl, Nq248, Kq248, sq248_b151, sq248_b183_202, fq248_0, fq248_1, fq248_2, fq248_3, fq248_4, fq248_5, fq248_6, fq248_7, fq248_8, fq248_9, hc248_202_178, hc248_202_181⟩ := hQ248
        have K248 : Keep h0 T248.heap [] := Keep.trans K147 Kq248 (allS (Or.inr sz_b147) all0)
        have Z248 : n0 ≤ T248.heap.size := Nat.le_trans Z147 Kq248.1
        have ne248_b151_b147 : b147 ≠ b151_248 := Nat.ne_of_lt (Nat.lt_of_lt_of_le A147.lt sq248_b151)
        have g_b151_248 : n0 ≤ b151_248 := Nat.le_trans Z147 sq248_b151
        have sz_b151_248 : h0.size ≤ b151_248 := Nat.le_trans K147.1 sq248_b151
        have ne248_b183_202_b147 : b147 ≠ b183_202_248 := Nat.ne_of_lt (Nat.lt_of_lt_of_le A147.lt sq248_b183_202)
        have g_b183_202_248 : n0 ≤ b183_202_248 := Nat.le_trans Z147 sq248_b183_202
        have sz_b183_202_248 : h0.size ≤ b183_202_248 := Nat.le_trans K147.1 sq248_b183_202
        have N248 := Fr.app N0 Nq248
        refine Goes.tr st248 ?_
        refine Goes.by (fun _ kz => XS.astore X248.here hx rfl (hb hby at_31) rfl rfl (l' := #[iv p1, iv p2, iv 0, iv 1, rv b147, .unset, .unset, .unset, .unset, .unset, .unset]) rfl (XS.aload X248.here hx rfl (hb hby at_33) rfl rfl kz)) ?_
        have f286 := (A147.keep Kq248)
        obtain ⟨cq285, kq285, q285a, q285b, q285c⟩ := isOf hZ rfl f286
        obtain ⟨_, _, ⟨T285, L285, k285, n285⟩, -, X285, ⟨Lc285, hQ285, l285, y285, z285⟩, st285⟩ := X248.virtualBack hx (y := (⟨"com/example/entail/entail/model/EntrySettings", "blocks", "()Z"⟩ : MethodName)) (z := (⟨"com/example/entail/entail/model/EntrySettings", "blocks", "()Z"⟩ : MethodName)) hown (mvT hZ (hw _ (List.mem_of_getElem? (i := 88) rfl))) (mvT hZ (hw _ (List.mem_of_getElem? (i := 89) rfl))) (notFace_of_selects (args := #[]) (mvT hZ (hw _ (List.mem_of_getElem? (i := 91) rfl)))) (mvT hZ (hw _ (List.mem_of_getElem? (i := 91) rfl))) (mvT hZ (hw _ (List.mem_of_getElem? (i := 90) rfl))) (by decide) (backOf (W := 0) (r11_248 l Z a0 hw [] T248.heap n0 Z248 b147 fq248_3) hZ (hw _ (List.mem_of_getElem? (i := 92) rfl)) (hw _ (List.mem_of_getElem? (i := 2) rfl)) (by decide) (by decide)) q285a q285c (g := (mkF m 35 #[iv p1, iv p2, iv 0, iv 1, rv b147, .unset, .unset, .unset, .unset, .unset, .unset] [(.ref b147)])) rfl (by rw [hml]; rfl) (Steps.refl _) (argsL := []) (rest := []) (lenOf pd5 rfl) rfl (by show 2 * 0 + _ ≤ _; exact Nat.le_of_eq rfl) (hb hby at_35) (fun _ _ => ⟨rfl, rfl, (by decide : 3 + 0 ≤ _), (by decide : 10 + 0 ≤ _)⟩)
        dsimp only [Pt.U, Pt.locs, Pt.cells, Pt.slots] at X285 l285 y285 z285 st285 hQ285
        subst l285 y285 z285
        obtain ⟨rfl, Nq285, e285⟩ := hQ285
        have N285 := Fr.app N248 Nq285
        refine Goes.tr st285 ?_
        refine Goes.by (fun _ kz => XS.istore X285.here hx rfl (hb hby at_38) rfl (l' := #[iv p1, iv p2, iv 0, iv 1, rv b147, iv 0, .unset, .unset, .unset, .unset, .unset]) rfl (XS.aload X285.here hx rfl (hb hby at_40) rfl rfl (XS.iloadN X285.here hx rfl (hb hby at_42) rfl kz))) ?_
        obtain ⟨cq294, kq294, q294a, q294b, q294c⟩ := isOf hZ e285 f286
        obtain ⟨_, _, ⟨T294, L294, k294, n294⟩, -, X294, ⟨Lc294, hQ294, l294, y294, z294⟩, st294⟩ := X285.virtualBack hx (y := (⟨"com/example/entail/entail/model/EntrySettings", "setBlocks", "(Z)Z"⟩ : MethodName)) (z := (⟨"com/example/entail/entail/model/EntrySettings", "setBlocks", "(Z)Z"⟩ : MethodName)) hown (mvT hZ (hw _ (List.mem_of_getElem? (i := 95) rfl))) (mvT hZ (hw _ (List.mem_of_getElem? (i := 96) rfl))) (notFace_of_selects (args := #[]) (mvT hZ (hw _ (List.mem_of_getElem? (i := 98) rfl)))) (mvT hZ (hw _ (List.mem_of_getElem? (i := 98) rfl))) (mvT hZ (hw _ (List.mem_of_getElem? (i := 97) rfl))) (by decide) (backOf (W := 0) (r12_286 l Z a0 hw [] T248.heap n0 Z248 q2 b147 b151_248 b183_202_248 f286 fq248_0 fq248_1 fq248_2 fq248_3 g_b147) hZ (hw _ (List.mem_of_getElem? (i := 99) rfl)) (hw _ (List.mem_of_getElem? (i := 2) rfl)) (by decide) (by decide)) q294a q294c (g := (mkF m 43 #[iv p1, iv p2, iv 0, iv 1, rv b147, iv 0, .unset, .unset, .unset, .unset, .unset] [(.int 0), (.ref b147)])) rfl (by rw [hml]; rfl) (Steps.refl _) (argsL := [(.int 0)]) (rest := []) (lenOf pd6 rfl) rfl (by show 2 * 0 + _ ≤ _; exact Nat.le_of_eq rfl) (hb hby at_43) (fun _ _ => ⟨rfl, e285, (by decide : 3 + 0 ≤ _), (by decide : 10 + 0 ≤ _)⟩)
        dsimp only [Pt.U, Pt.locs, Pt.cells, Pt.slots] at X294 l294 y294 z294 st294 hQ294
        subst l294 y294 z294
        obtain ⟨rfl, Nq294, Kq294, fq294_0, fq294_1, fq294_2, fq294_3⟩ := hQ294
        have K294 : Keep h0 T294.heap [] := Keep.trans K248 Kq294 (allS (Or.inr sz_b147) all0)
        have Z294 : n0 ≤ T294.heap.size := Nat.le_trans Z248 Kq294.1
        have N294 := Fr.app N285 Nq294
        refine Goes.tr st294 ?_
        refine Goes.by (fun _ kz => XS.istore X294.here hx rfl (hb hby at_46) rfl (l' := #[iv p1, iv p2, iv 0, iv 1, rv b147, iv 0, iv 0, .unset, .unset, .unset, .unset]) rfl (XS.aload X294.here hx rfl (hb hby at_48) rfl rfl kz)) ?_
        have f296 := (f286.keep Kq294)
        obtain ⟨cq295, kq295, q295a, q295b, q295c⟩ := isOf hZ rfl f296
        obtain ⟨_, _, ⟨T295, L295, k295, n295⟩, -, X295, ⟨Lc295, hQ295, l295, y295, z295⟩, st295⟩ := X294.virtualBack hx (y := (⟨"com/example/entail/entail/model/EntrySettings", "blocks", "()Z"⟩ : MethodName)) (z := (⟨"com/example/entail/entail/model/EntrySettings", "blocks", "()Z"⟩ : MethodName)) hown (mvT hZ (hw _ (List.mem_of_getElem? (i := 88) rfl))) (mvT hZ (hw _ (List.mem_of_getElem? (i := 89) rfl))) (notFace_of_selects (args := #[]) (mvT hZ (hw _ (List.mem_of_getElem? (i := 91) rfl)))) (mvT hZ (hw _ (List.mem_of_getElem? (i := 91) rfl))) (mvT hZ (hw _ (List.mem_of_getElem? (i := 90) rfl))) (by decide) (backOf (W := 0) (r11_248 l Z a0 hw [] T294.heap n0 Z294 b147 fq294_3) hZ (hw _ (List.mem_of_getElem? (i := 92) rfl)) (hw _ (List.mem_of_getElem? (i := 2) rfl)) (by decide) (by decide)) q295a q295c (g := (mkF m 50 #[iv p1, iv p2, iv 0, iv 1, rv b147, iv 0, iv 0, .unset, .unset, .unset, .unset] [(.ref b147)])) rfl (by rw [hml]; rfl) (Steps.refl _) (argsL := []) (rest := []) (lenOf pd5 rfl) rfl (by show 2 * 0 + _ ≤ _; exact Nat.le_of_eq rfl) (hb hby at_50) (fun _ _ => ⟨rfl, rfl, (by decide : 3 + 0 ≤ _), (by decide : 10 + 0 ≤ _)⟩)
        dsimp only [Pt.U, Pt.locs, Pt.cells, Pt.slots] at X295 l295 y295 z295 st295 hQ295
        subst l295 y295 z295
        obtain ⟨rfl, Nq295, e295⟩ := hQ295
        have N295 := Fr.app N294 Nq295
        refine Goes.tr st295 ?_
        refine Goes.by (fun _ kz => XS.istore X295.here hx rfl (hb hby at_53) rfl (l' := #[iv p1, iv p2, iv 0, iv 1, rv b147, iv 0, iv 0, iv 0, .unset, .unset, .unset]) rfl (XS.aload X295.here hx rfl (hb hby at_55) rfl rfl (XS.iloadN X295.here hx rfl (hb hby at_57) rfl kz))) ?_
        obtain ⟨cq304, kq304, q304a, q304b, q304c⟩ := isOf hZ e295 f296
        obtain ⟨_, _, ⟨T304, L304, k304, n304⟩, -, X304, ⟨Lc304, hQ304, l304, y304, z304⟩, st304⟩ := X295.virtualBack hx (y := (⟨"com/example/entail/entail/model/EntrySettings", "setBlocks", "(Z)Z"⟩ : MethodName)) (z := (⟨"com/example/entail/entail/model/EntrySettings", "setBlocks", "(Z)Z"⟩ : MethodName)) hown (mvT hZ (hw _ (List.mem_of_getElem? (i := 95) rfl))) (mvT hZ (hw _ (List.mem_of_getElem? (i := 96) rfl))) (notFace_of_selects (args := #[]) (mvT hZ (hw _ (List.mem_of_getElem? (i := 98) rfl)))) (mvT hZ (hw _ (List.mem_of_getElem? (i := 98) rfl))) (mvT hZ (hw _ (List.mem_of_getElem? (i := 97) rfl))) (by decide) (backOf (W := 0) (r12_296 l Z a0 hw [] T294.heap n0 Z294 q2 b147 b151_248 b183_202_248 f296 fq294_0 fq294_1 fq294_2 fq294_3 g_b147) hZ (hw _ (List.mem_of_getElem? (i := 99) rfl)) (hw _ (List.mem_of_getElem? (i := 2) rfl)) (by decide) (by decide)) q304a q304c (g := (mkF m 58 #[iv p1, iv p2, iv 0, iv 1, rv b147, iv 0, iv 0, iv 0, .unset, .unset, .unset] [(.int 1), (.ref b147)])) rfl (by rw [hml]; rfl) (Steps.refl _) (argsL := [(.int 1)]) (rest := []) (lenOf pd6 rfl) rfl (by show 2 * 0 + _ ≤ _; exact Nat.le_of_eq rfl) (hb hby at_58) (fun _ _ => ⟨rfl, e295, (by decide : 3 + 0 ≤ _), (by decide : 10 + 0 ≤ _)⟩)
        dsimp only [Pt.U, Pt.locs, Pt.cells, Pt.slots] at X304 l304 y304 z304 st304 hQ304
        subst l304 y304 z304
        obtain ⟨rfl, Nq304, Kq304, fq304_0, fq304_1, fq304_2, fq304_3⟩ := hQ304
        have K304 : Keep h0 T304.heap [] := Keep.trans K294 Kq304 (allS (Or.inr sz_b147) all0)
        have Z304 : n0 ≤ T304.heap.size := Nat.le_trans Z294 Kq304.1
        have N304 := Fr.app N295 Nq304
        refine Goes.tr st304 ?_
        refine Goes.by (fun _ kz => XS.istore X304.here hx rfl (hb hby at_61) rfl (l' := #[iv p1, iv p2, iv 0, iv 1, rv b147, iv 0, iv 0, iv 0, iv 1, .unset, .unset]) rfl (XS.aload X304.here hx rfl (hb hby at_63) rfl rfl kz)) ?_
        have f306 := (f296.keep Kq304)
        obtain ⟨cq305, kq305, q305a, q305b, q305c⟩ := isOf hZ rfl f306
        obtain ⟨_, _, ⟨T305, L305, k305, n305⟩, -, X305, ⟨Lc305, hQ305, l305, y305, z305⟩, st305⟩ := X304.virtualBack hx (y := (⟨"com/example/entail/entail/model/EntrySettings", "blocks", "()Z"⟩ : MethodName)) (z := (⟨"com/example/entail/entail/model/EntrySettings", "blocks", "()Z"⟩ : MethodName)) hown (mvT hZ (hw _ (List.mem_of_getElem? (i := 88) rfl))) (mvT hZ (hw _ (List.mem_of_getElem? (i := 89) rfl))) (notFace_of_selects (args := #[]) (mvT hZ (hw _ (List.mem_of_getElem? (i := 91) rfl)))) (mvT hZ (hw _ (List.mem_of_getElem? (i := 91) rfl))) (mvT hZ (hw _ (List.mem_of_getElem? (i := 90) rfl))) (by decide) (backOf (W := 0) (r11_271 l Z a0 hw [] T304.heap n0 Z304 b147 fq304_3) hZ (hw _ (List.mem_of_getElem? (i := 92) rfl)) (hw _ (List.mem_of_getElem? (i := 2) rfl)) (by decide) (by decide)) q305a q305c (g := (mkF m 65 #[iv p1, iv p2, iv 0, iv 1, rv b147, iv 0, iv 0, iv 0, iv 1, .unset, .unset] [(.ref b147)])) rfl (by rw [hml]; rfl) (Steps.refl _) (argsL := []) (rest := []) (lenOf pd5 rfl) rfl (by show 2 * 0 + _ ≤ _; exact Nat.le_of_eq rfl) (hb hby at_65) (fun _ _ => ⟨rfl, rfl, (by decide : 3 + 0 ≤ _), (by decide : 10 + 0 ≤ _)⟩)
        dsimp only [Pt.U, Pt.locs, Pt.cells, Pt.slots] at X305 l305 y305 z305 st305 hQ305
        subst l305 y305 z305
        obtain ⟨rfl, Nq305, e305⟩ := hQ305
        have N305 := Fr.app N304 Nq305
        refine Goes.tr st305 ?_
        refine Goes.by (fun _ kz => XS.istore X305.here hx rfl (hb hby at_68) rfl (l' := #[iv p1, iv p2, iv 0, iv 1, rv b147, iv 0, iv 0, iv 0, iv 1, iv 1, .unset]) rfl (XS.iload X305.here hx rfl (hb hby at_70) rfl (XS.ifNo X305.here hx rfl (hb hby at_72) rfl ((if0 _ _).trans (teq (by decide : (0 : Int32) = (0 : Int32))).2) kz))) ?_
        show Goes p e below (T305.setTop (mkF m 75 #[iv p1, iv p2, iv 0, iv 1, rv b147, iv 0, iv 0, iv 0, iv 1, iv 1, .unset] [])) _
        refine Goes.by (fun _ kz => XS.iconst X305.here hx rfl (hb hby at_75) (XS.goto X305.here hx rfl (pc0 := 76) (pc' := 80) rfl (hb hby at_76) (by decide) (by decide) (XS.istore X305.here hx rfl (hb hby at_80) rfl (l' := #[iv p1, iv p2, iv 0, iv 1, rv b147, iv 0, iv 0, iv 0, iv 1, iv 1, iv 1]) rfl kz))) ?_
        show Goes p e below (T305.setTop (mkF m 82 #[iv p1, iv p2, iv 0, iv 1, rv b147, iv 0, iv 0, iv 0, iv 1, iv 1, iv 1] [])) _
        refine Goes.by (fun _ kz => XS.iload X305.here hx rfl (hb hby at_82) rfl (XS.ifNo X305.here hx rfl (hb hby at_84) rfl ((if0 _ _).trans (feq (by decide : ¬ ((1 : Int32) = (0 : Int32)))).1) (XS.iload X305.here hx rfl (hb hby at_87) rfl kz))) ?_
        show Goes p e below (T305.setTop (mkF m 89 #[iv p1, iv p2, iv 0, iv 1, rv b147, iv 0, iv 0, iv 0, iv 1, iv 1, iv 1] [(.int 0)])) _
        refine Goes.by (fun _ kz => XS.iloadN X305.here hx rfl (hb hby at_89) rfl (XS.icmpNo X305.here hx rfl (hb hby at_90) rfl (teq (by decide : (0 : Int32) = (0 : Int32))).2 (XS.iconst X305.here hx rfl (hb hby at_93) kz))) ?_
        show Goes p e below (T305.setTop (mkF m 94 #[iv p1, iv p2, iv 0, iv 1, rv b147, iv 0, iv 0, iv 0, iv 1, iv 1, iv 1] [(.int 1)])) _
        refine Goes.by (fun _ kz => XS.goto X305.here hx rfl (pc0 := 94) (pc' := 98) rfl (hb hby at_94) (by decide) (by decide) (XS.istore X305.here hx rfl (hb hby at_98) rfl (l' := #[iv p1, iv p2, iv 0, iv 1, rv b147, iv 0, iv 0, iv 0, iv 1, iv 1, iv 1]) rfl (XS.iload X305.here hx rfl (hb hby at_100) rfl kz))) ?_
        show Goes p e below (T305.setTop (mkF m 102 #[iv p1, iv p2, iv 0, iv 1, rv b147, iv 0, iv 0, iv 0, iv 1, iv 1, iv 1] [(.int 1)])) _
        refine Goes.by (fun _ kz => XS.ifNo X305.here hx rfl (hb hby at_102) rfl ((if0 _ _).trans (feq (by decide : ¬ ((1 : Int32) = (0 : Int32)))).1) (XS.iload X305.here hx rfl (hb hby at_105) rfl (XS.iloadN X305.here hx rfl (hb hby at_107) rfl kz))) ?_
        show Goes p e below (T305.setTop (mkF m 108 #[iv p1, iv p2, iv 0, iv 1, rv b147, iv 0, iv 0, iv 0, iv 1, iv 1, iv 1] [(.int 0), (.int 0)])) _
        refine Goes.by (fun _ kz => XS.icmpNo X305.here hx rfl (hb hby at_108) rfl (teq (by decide : (0 : Int32) = (0 : Int32))).2 (XS.iconst X305.here hx rfl (hb hby at_111) (XS.goto X305.here hx rfl (pc0 := 112) (pc' := 116) rfl (hb hby at_112) (by decide) (by decide) kz))) ?_
        show Goes p e below (T305.setTop (mkF m 116 #[iv p1, iv p2, iv 0, iv 1, rv b147, iv 0, iv 0, iv 0, iv 1, iv 1, iv 1] [(.int 1)])) _
        refine Goes.by (fun _ kz => XS.istore X305.here hx rfl (hb hby at_116) rfl (l' := #[iv p1, iv p2, iv 0, iv 1, rv b147, iv 0, iv 0, iv 0, iv 1, iv 1, iv 1]) rfl (XS.iload X305.here hx rfl (hb hby at_118) rfl (XS.ifNo X305.here hx rfl (hb hby at_120) rfl ((if0 _ _).trans (feq (by decide : ¬ ((1 : Int32) = (0 : Int32)))).1) kz))) ?_
        show Goes p e below (T305.setTop (mkF m 123 #[iv p1, iv p2, iv 0, iv 1, rv b147, iv 0, iv 0, iv 0, iv 1, iv 1, iv 1] [])) _
        refine Goes.by (fun _ kz => XS.iload X305.here hx rfl (hb hby at_123) rfl (XS.iloadN X305.here hx rfl (hb hby at_125) rfl (XS.iloadN X305.here hx rfl (hb hby at_126) rfl kz))) ?_
        show Goes p e below (T305.setTop (mkF m 127 #[iv p1, iv p2, iv 0, iv 1, rv b147, iv 0, iv 0, iv 0, iv 1, iv 1, iv 1] [(.int 1), (.int 0), (.int 1)])) _
        refine Goes.by (fun _ kz => XS.icmpNo X305.here hx rfl (hb hby at_127) rfl (feq (by decide : ¬ ((0 : Int32) = (1 : Int32)))).1 (XS.iconst X305.here hx rfl (hb hby at_130) (XS.goto X305.here hx rfl (pc0 := 131) (pc' := 135) rfl (hb hby at_131) (by decide) (by decide) kz))) ?_
        show Goes p e below (T305.setTop (mkF m 135 #[iv p1, iv p2, iv 0, iv 1, rv b147, iv 0, iv 0, iv 0, iv 1, iv 1, iv 1] [(.int 1), (.int 1)])) _
        refine Goes.by (fun _ kz => XS.icmpNo X305.here hx rfl (hb hby at_135) rfl (teq (by decide : (1 : Int32) = (1 : Int32))).2 (XS.iconst X305.here hx rfl (hb hby at_138) (XS.goto X305.here hx rfl (pc0 := 139) (pc' := 143) rfl (hb hby at_139) (by decide) (by decide) kz))) ?_
        show Goes p e below (T305.setTop (mkF m 143 #[iv p1, iv p2, iv 0, iv 1, rv b147, iv 0, iv 0, iv 0, iv 1, iv 1, iv 1] [(.int 1)])) _
        refine Goes.by (fun _ kz => XS.istore X305.here hx rfl (hb hby at_143) rfl (l' := #[iv p1, iv p2, iv 0, iv 1, rv b147, iv 0, iv 0, iv 0, iv 1, iv 1, iv 1]) rfl (XS.iload X305.here hx rfl (hb hby at_145) rfl (XS.ifNo X305.here hx rfl (hb hby at_147) rfl ((if0 _ _).trans (feq (by decide : ¬ ((1 : Int32) = (0 : Int32)))).1) kz))) ?_
        show Goes p e below (T305.setTop (mkF m 150 #[iv p1, iv p2, iv 0, iv 1, rv b147, iv 0, iv 0, iv 0, iv 1, iv 1, iv 1] [])) _
        refine Goes.by (fun _ kz => XS.iload X305.here hx rfl (hb hby at_150) rfl (XS.iloadN X305.here hx rfl (hb hby at_152) rfl (XS.icmpNo X305.here hx rfl (hb hby at_153) rfl (teq (by decide : (1 : Int32) = (1 : Int32))).2 kz))) ?_
        show Goes p e below (T305.setTop (mkF m 156 #[iv p1, iv p2, iv 0, iv 1, rv b147, iv 0, iv 0, iv 0, iv 1, iv 1, iv 1] [])) _
        refine Goes.by (fun _ kz => XS.iconst X305.here hx rfl (hb hby at_156) (XS.goto X305.here hx rfl (pc0 := 157) (pc' := 161) rfl (hb hby at_157) (by decide) (by decide) (XS.istore X305.here hx rfl (hb hby at_161) rfl (l' := #[iv p1, iv p2, iv 0, iv 1, rv b147, iv 0, iv 0, iv 0, iv 1, iv 1, iv 1]) rfl kz))) ?_
        show Goes p e below (T305.setTop (mkF m 163 #[iv p1, iv p2, iv 0, iv 1, rv b147, iv 0, iv 0, iv 0, iv 1, iv 1, iv 1] [])) _
        refine Goes.by (fun _ kz => XS.iload X305.here hx rfl (hb hby at_163) rfl kz) ?_
        show Goes p e below (T305.setTop (mkF m 165 #[iv p1, iv p2, iv 0, iv 1, rv b147, iv 0, iv 0, iv 0, iv 1, iv 1, iv 1] [(.int 1)])) _
        obtain ⟨fs, hr, hrun, hended, hW, hsame⟩ := X305.leave (v := some (.int 1)) (fun h => by rw [Bd.returns] at h; cases h)
        exact ⟨_, _, retN X305 hx (t := .boolean) Bd.returns (by simp) (hb hby at_165) hr, hrun, hended, _, _, rfl, ⟨rfl, N305⟩, ⟨_, rfl⟩, hW, hsame.mono (by decide) (by decide)⟩
  · rw [hqp1]
    show Goes p e below (s₁.setTop (mkF m 3 #[iv p1, iv p2, .unset, .unset, .unset, .unset, .unset, .unset, .unset, .unset, .unset] [(.int 1)])) _
    refine Goes.by (fun _ kz => XS.ifNo X0.here hx rfl (hb hby at_3) rfl ((if0 _ _).trans (feq (by decide : ¬ ((1 : Int32) = (0 : Int32)))).1) (XS.iconst X0.here hx rfl (hb hby at_6) (XS.goto X0.here hx rfl (pc0 := 7) (pc' := 11) rfl (hb hby at_7) (by decide) (by decide) kz))) ?_
    show Goes p e below (s₁.setTop (mkF m 11 #[iv p1, iv p2, .unset, .unset, .unset, .unset, .unset, .unset, .unset, .unset, .unset] [(.int 1)])) _
    refine Goes.by (fun _ kz => XS.istoreN X0.here hx rfl (hb hby at_11) rfl (l' := #[iv p1, iv p2, iv 1, .unset, .unset, .unset, .unset, .unset, .unset, .unset, .unset]) rfl (XS.iloadN X0.here hx rfl (hb hby at_12) rfl (XS.iconst X0.here hx rfl (hb hby at_13) kz))) ?_
    show Goes p e below (s₁.setTop (mkF m 14 #[iv p1, iv p2, iv 1, .unset, .unset, .unset, .unset, .unset, .unset, .unset, .unset] [(.int 1), (.int p2)])) _
    refine Goes.by (fun _ kz => XS.iand X0.here hx rfl (hb hby at_14) rfl kz) ?_
    show Goes p e below (s₁.setTop (mkF m 15 #[iv p1, iv p2, iv 1, .unset, .unset, .unset, .unset, .unset, .unset, .unset, .unset] [(.int (p2 &&& (1 : Int32)))])) _
    rcases own_f p2 with hqp2 | hqp2
    · rw [hqp2]
      show Goes p e below (s₁.setTop (mkF m 15 #[iv p1, iv p2, iv 1, .unset, .unset, .unset, .unset, .unset, .unset, .unset, .unset] [(.int 0)])) _
      refine Goes.by (fun _ kz => XS.ifYes X0.here hx rfl (pc0 := 15) (pc' := 22) rfl (hb hby at_15) rfl ((if0 _ _).trans (teq (by decide : (0 : Int32) = (0 : Int32))).1) (by decide) (by decide) (XS.iconst X0.here hx rfl (hb hby at_22) (XS.istoreN X0.here hx rfl (hb hby at_23) rfl (l' := #[iv p1, iv p2, iv 1, iv 0, .unset, .unset, .unset, .unset, .unset, .unset, .unset]) rfl kz))) ?_
      obtain ⟨T307, h307, X307, e307, E307, A307, D307, -, st307⟩ := newO X0 hx hZ hown (hw _ (List.mem_of_getElem? (i := 0) rfl)) (hw _ (List.mem_of_getElem? (i := 1) rfl)) (hw _ (List.mem_of_getElem? (i := 2) rfl)) e0 (g := (mkF m 24 #[iv p1, iv p2, iv 1, iv 0, .unset, .unset, .unset, .unset, .unset, .unset, .unset] [])) rfl (hb hby at_24) (by decide) (by decide)
      obtain ⟨b307, g307⟩ : ∃ z, z = h0.size := ⟨_, rfl⟩
      rw [← g307] at A307 D307 st307
      have g_b307 : n0 ≤ b307 := Nat.le_trans Z0 (Nat.le_of_eq g307.symm)
      have sz_b307 : h0.size ≤ b307 := Nat.le_of_eq g307.symm
      have F307_rules : Fld Z h307 b307 "com/example/entail/entail/model/EntrySettings" "rules" "Ljava/util/List;" .null := D307 (Or.inr (hw _ (List.mem_of_getElem? (i := 34) rfl))) (ty := (.object "java/util/List")) (by decide)
      have F307_rulesView : Fld Z h307 b307 "com/example/entail/entail/model/EntrySettings" "rulesView" "Ljava/util/List;" .null := D307 (Or.inr (hw _ (List.mem_of_getElem? (i := 79) rfl))) (ty := (.object "java/util/List")) (by decide)
      have F307_blockedTrusteesView : Fld Z h307 b307 "com/example/entail/entail/model/EntrySettings" "blockedTrusteesView" "Ljava/util/Set;" .null := D307 (Or.inl (hw _ (List.mem_of_getElem? (i := 87) rfl))) (ty := (.object "java/util/Set")) (by decide)
      have F307_blocks : Fld Z h307 b307 "com/example/entail/entail/model/EntrySettings" "blocks" "Z" (.int 0) := D307 (Or.inl (hw _ (List.mem_of_getElem? (i := 94) rfl))) (ty := .boolean) (by decide)
      have K307 : Keep h0 h307 [] := Keep.ext (Keep.refl h0 []) E307
      have Z307 : n0 ≤ h307.size := Nat.le_trans Z0 E307.1
      refine Goes.by st307 ?_
      refine Goes.by (fun _ kz => XS.dup X307.here hx rfl (hb hby at_27) rfl rfl kz) ?_
      have f406 := (S1.ext E307)
      have f407 := (S2.ext E307)
      obtain ⟨_, _, ⟨T408, L408, k408, n408⟩, -, X408, ⟨Lc408, hQ408, l408, y408, z408⟩, st408⟩ := X307.specialBack hx (y := (⟨"com/example/entail/entail/model/EntrySettings", "<init>", "()V"⟩ : MethodName)) rfl hown (mvT hZ (hw _ (List.mem_of_getElem? (i := 3) rfl))) (mvT hZ (hw _ (List.mem_of_getElem? (i := 4) rfl))) (mvT hZ (hw _ (List.mem_of_getElem? (i := 5) rfl))) (by decide) (backOf (W := 1) (r1_307 l Z a0 hw [] h307 n0 Z307 mA mL mR q1 q2 b307 f406 f407 A307 F307_rules F307_rulesView F307_blockedTrusteesView F307_blocks MA ML MR g_b307) hZ (hw _ (List.mem_of_getElem? (i := 5) rfl)) (hw _ (List.mem_of_getElem? (i := 2) rfl)) (by decide) (by decide)) (g := (mkF m 28 #[iv p1, iv p2, iv 1, iv 0, .unset, .unset, .unset, .unset, .unset, .unset, .unset] [(.ref b307), (.ref b307)])) rfl (by rw [hml]; rfl) (Steps.refl _) (a := b307) (argsL := []) (rest := [(.ref b307)]) (lenOf pd0 rfl) rfl (by show 2 * 0 + _ ≤ _; exact Nat.le_of_eq rfl) (hb hby at_28) (fun _ _ => ⟨rfl, e307, (by decide : 1 + 2 ≤ _), (by decide : 5 + 5 ≤ _)⟩)
      dsimp only [Pt.U, Pt.locs, Pt.cells, Pt.slots] at X408 l408 y408 z408 st408 hQ408
      subst l408 y408 z408
      rcases hQ408 with hQ408 | hQ408 | hQ408
      · obtain ⟨b311_408, rfl, Nq408, Kq408, sq408_b311, fq408_0, fq408_1, fq408_2, fq408_3, fq408_4, fq408_5, fq408_6, hc408_362_338⟩ := hQ408
        have K408 : Keep h0 T408.heap [] := Keep.trans K307 Kq408 (allS (Or.inr sz_b307) all0)
        have Z408 : n0 ≤ T408.heap.size := Nat.le_trans Z307 Kq408.1
        have ne408_b311_b307 : b307 ≠ b311_408 := Nat.ne_of_lt (Nat.lt_of_lt_of_le A307.lt sq408_b311)
        have g_b311_408 : n0 ≤ b311_408 := Nat.le_trans Z307 sq408_b311
        have sz_b311_408 : h0.size ≤ b311_408 := Nat.le_trans K307.1 sq408_b311
        have N408 := Fr.app N0 Nq408
        refine Goes.tr st408 ?_
        refine Goes.by (fun _ kz => XS.astore X408.here hx rfl (hb hby at_31) rfl rfl (l' := #[iv p1, iv p2, iv 1, iv 0, rv b307, .unset, .unset, .unset, .unset, .unset, .unset]) rfl (XS.aload X408.here hx rfl (hb hby at_33) rfl rfl kz)) ?_
        have f413 := (A307.keep Kq408)
        obtain ⟨cq412, kq412, q412a, q412b, q412c⟩ := isOf hZ rfl f413
        obtain ⟨_, _, ⟨T412, L412, k412, n412⟩, -, X412, ⟨Lc412, hQ412, l412, y412, z412⟩, st412⟩ := X408.virtualBack hx (y := (⟨"com/example/entail/entail/model/EntrySettings", "blocks", "()Z"⟩ : MethodName)) (z := (⟨"com/example/entail/entail/model/EntrySettings", "blocks", "()Z"⟩ : MethodName)) hown (mvT hZ (hw _ (List.mem_of_getElem? (i := 88) rfl))) (mvT hZ (hw _ (List.mem_of_getElem? (i := 89) rfl))) (notFace_of_selects (args := #[]) (mvT hZ (hw _ (List.mem_of_getElem? (i := 91) rfl)))) (mvT hZ (hw _ (List.mem_of_getElem? (i := 91) rfl))) (mvT hZ (hw _ (List.mem_of_getElem? (i := 90) rfl))) (by decide) (backOf (W := 0) (r11_408 l Z a0 hw [] T408.heap n0 Z408 b307 fq408_3) hZ (hw _ (List.mem_of_getElem? (i := 92) rfl)) (hw _ (List.mem_of_getElem? (i := 2) rfl)) (by decide) (by decide)) q412a q412c (g := (mkF m 35 #[iv p1, iv p2, iv 1, iv 0, rv b307, .unset, .unset, .unset, .unset, .unset, .unset] [(.ref b307)])) rfl (by rw [hml]; rfl) (Steps.refl _) (argsL := []) (rest := []) (lenOf pd5 rfl) rfl (by show 2 * 0 + _ ≤ _; exact Nat.le_of_eq rfl) (hb hby at_35) (fun _ _ => ⟨rfl, rfl, (by decide : 3 + 0 ≤ _), (by decide : 10 + 0 ≤ _)⟩)
        dsimp only [Pt.U, Pt.locs, Pt.cells, Pt.slots] at X412 l412 y412 z412 st412 hQ412
        subst l412 y412 z412
        obtain ⟨rfl, Nq412, e412⟩ := hQ412
        have N412 := Fr.app N408 Nq412
        refine Goes.tr st412 ?_
        refine Goes.by (fun _ kz => XS.istore X412.here hx rfl (hb hby at_38) rfl (l' := #[iv p1, iv p2, iv 1, iv 0, rv b307, iv 0, .unset, .unset, .unset, .unset, .unset]) rfl (XS.aload X412.here hx rfl (hb hby at_40) rfl rfl (XS.iloadN X412.here hx rfl (hb hby at_42) rfl kz))) ?_
        obtain ⟨cq421, kq421, q421a, q421b, q421c⟩ := isOf hZ e412 f413
        obtain ⟨_, _, ⟨T421, L421, k421, n421⟩, -, X421, ⟨Lc421, hQ421, l421, y421, z421⟩, st421⟩ := X412.virtualBack hx (y := (⟨"com/example/entail/entail/model/EntrySettings", "setBlocks", "(Z)Z"⟩ : MethodName)) (z := (⟨"com/example/entail/entail/model/EntrySettings", "setBlocks", "(Z)Z"⟩ : MethodName)) hown (mvT hZ (hw _ (List.mem_of_getElem? (i := 95) rfl))) (mvT hZ (hw _ (List.mem_of_getElem? (i := 96) rfl))) (notFace_of_selects (args := #[]) (mvT hZ (hw _ (List.mem_of_getElem? (i := 98) rfl)))) (mvT hZ (hw _ (List.mem_of_getElem? (i := 98) rfl))) (mvT hZ (hw _ (List.mem_of_getElem? (i := 97) rfl))) (by decide) (backOf (W := 0) (r12_413 l Z a0 hw [] T408.heap n0 Z408 q2 b307 b311_408 f413 fq408_0 fq408_1 fq408_2 fq408_3 g_b307) hZ (hw _ (List.mem_of_getElem? (i := 99) rfl)) (hw _ (List.mem_of_getElem? (i := 2) rfl)) (by decide) (by decide)) q421a q421c (g := (mkF m 43 #[iv p1, iv p2, iv 1, iv 0, rv b307, iv 0, .unset, .unset, .unset, .unset, .unset] [(.int 1), (.ref b307)])) rfl (by rw [hml]; rfl) (Steps.refl _) (argsL := [(.int 1)]) (rest := []) (lenOf pd6 rfl) rfl (by show 2 * 0 + _ ≤ _; exact Nat.le_of_eq rfl) (hb hby at_43) (fun _ _ => ⟨rfl, e412, (by decide : 3 + 0 ≤ _), (by decide : 10 + 0 ≤ _)⟩)
        dsimp only [Pt.U, Pt.locs, Pt.cells, Pt.slots] at X421 l421 y421 z421 st421 hQ421
        subst l421 y421 z421
        obtain ⟨rfl, Nq421, Kq421, fq421_0, fq421_1, fq421_2, fq421_3⟩ := hQ421
        have K421 : Keep h0 T421.heap [] := Keep.trans K408 Kq421 (allS (Or.inr sz_b307) all0)
        have Z421 : n0 ≤ T421.heap.size := Nat.le_trans Z408 Kq421.1
        have N421 := Fr.app N412 Nq421
        refine Goes.tr st421 ?_
        refine Goes.by (fun _ kz => XS.istore X421.here hx rfl (hb hby at_46) rfl (l' := #[iv p1, iv p2, iv 1, iv 0, rv b307, iv 0, iv 1, .unset, .unset, .unset, .unset]) rfl (XS.aload X421.here hx rfl (hb hby at_48) rfl rfl kz)) ?_
        have f426 := (f413.keep Kq421)
        obtain ⟨cq425, kq425, q425a, q425b, q425c⟩ := isOf hZ rfl f426
        obtain ⟨_, _, ⟨T425, L425, k425, n425⟩, -, X425, ⟨Lc425, hQ425, l425, y425, z425⟩, st425⟩ := X421.virtualBack hx (y := (⟨"com/example/entail/entail/model/EntrySettings", "blocks", "()Z"⟩ : MethodName)) (z := (⟨"com/example/entail/entail/model/EntrySettings", "blocks", "()Z"⟩ : MethodName)) hown (mvT hZ (hw _ (List.mem_of_getElem? (i := 88) rfl))) (mvT hZ (hw _ (List.mem_of_getElem? (i := 89) rfl))) (notFace_of_selects (args := #[]) (mvT hZ (hw _ (List.mem_of_getElem? (i := 91) rfl)))) (mvT hZ (hw _ (List.mem_of_getElem? (i := 91) rfl))) (mvT hZ (hw _ (List.mem_of_getElem? (i := 90) rfl))) (by decide) (backOf (W := 0) (r11_421 l Z a0 hw [] T421.heap n0 Z421 b307 fq421_3) hZ (hw _ (List.mem_of_getElem? (i := 92) rfl)) (hw _ (List.mem_of_getElem? (i := 2) rfl)) (by decide) (by decide)) q425a q425c (g := (mkF m 50 #[iv p1, iv p2, iv 1, iv 0, rv b307, iv 0, iv 1, .unset, .unset, .unset, .unset] [(.ref b307)])) rfl (by rw [hml]; rfl) (Steps.refl _) (argsL := []) (rest := []) (lenOf pd5 rfl) rfl (by show 2 * 0 + _ ≤ _; exact Nat.le_of_eq rfl) (hb hby at_50) (fun _ _ => ⟨rfl, rfl, (by decide : 3 + 0 ≤ _), (by decide : 10 + 0 ≤ _)⟩)
        dsimp only [Pt.U, Pt.locs, Pt.cells, Pt.slots] at X425 l425 y425 z425 st425 hQ425
        subst l425 y425 z425
        obtain ⟨rfl, Nq425, e425⟩ := hQ425
        have N425 := Fr.app N421 Nq425
        refine Goes.tr st425 ?_
        refine Goes.by (fun _ kz => XS.istore X425.here hx rfl (hb hby at_53) rfl (l' := #[iv p1, iv p2, iv 1, iv 0, rv b307, iv 0, iv 1, iv 1, .unset, .unset, .unset]) rfl (XS.aload X425.here hx rfl (hb hby at_55) rfl rfl (XS.iloadN X425.here hx rfl (hb hby at_57) rfl kz))) ?_
        obtain ⟨cq434, kq434, q434a, q434b, q434c⟩ := isOf hZ e425 f426
        obtain ⟨_, _, ⟨T434, L434, k434, n434⟩, -, X434, ⟨Lc434, hQ434, l434, y434, z434⟩, st434⟩ := X425.virtualBack hx (y := (⟨"com/example/entail/entail/model/EntrySettings", "setBlocks", "(Z)Z"⟩ : MethodName)) (z := (⟨"com/example/entail/entail/model/EntrySettings", "setBlocks", "(Z)Z"⟩ : MethodName)) hown (mvT hZ (hw _ (List.mem_of_getElem? (i := 95) rfl))) (mvT hZ (hw _ (List.mem_of_getElem? (i := 96) rfl))) (notFace_of_selects (args := #[]) (mvT hZ (hw _ (List.mem_of_getElem? (i := 98) rfl)))) (mvT hZ (hw _ (List.mem_of_getElem? (i := 98) rfl))) (mvT hZ (hw _ (List.mem_of_getElem? (i := 97) rfl))) (by decide) (backOf (W := 0) (r12_426 l Z a0 hw [] T421.heap n0 Z421 q2 b307 b311_408 f426 fq421_0 fq421_1 fq421_2 fq421_3 g_b307) hZ (hw _ (List.mem_of_getElem? (i := 99) rfl)) (hw _ (List.mem_of_getElem? (i := 2) rfl)) (by decide) (by decide)) q434a q434c (g := (mkF m 58 #[iv p1, iv p2, iv 1, iv 0, rv b307, iv 0, iv 1, iv 1, .unset, .unset, .unset] [(.int 0), (.ref b307)])) rfl (by rw [hml]; rfl) (Steps.refl _) (argsL := [(.int 0)]) (rest := []) (lenOf pd6 rfl) rfl (by show 2 * 0 + _ ≤ _; exact Nat.le_of_eq rfl) (hb hby at_58) (fun _ _ => ⟨rfl, e425, (by decide : 3 + 0 ≤ _), (by decide : 10 + 0 ≤ _)⟩)
        dsimp only [Pt.U, Pt.locs, Pt.cells, Pt.slots] at X434 l434 y434 z434 st434 hQ434
        subst l434 y434 z434
        obtain ⟨rfl, Nq434, Kq434, fq434_0, fq434_1, fq434_2, fq434_3⟩ := hQ434
        have K434 : Keep h0 T434.heap [] := Keep.trans K421 Kq434 (allS (Or.inr sz_b307) all0)
        have Z434 : n0 ≤ T434.heap.size := Nat.le_trans Z421 Kq434.1
        have N434 := Fr.app N425 Nq434
        refine Goes.tr st434 ?_
        refine Goes.by (fun _ kz => XS.istore X434.here hx rfl (hb hby at_61) rfl (l' := #[iv p1, iv p2, iv 1, iv 0, rv b307, iv 0, iv 1, iv 1, iv 1, .unset, .unset]) rfl (XS.aload X434.here hx rfl (hb hby at_63) rfl rfl kz)) ?_
        have f436 := (f426.keep Kq434)
        obtain ⟨cq435, kq435, q435a, q435b, q435c⟩ := isOf hZ rfl f436
        obtain ⟨_, _, ⟨T435, L435, k435, n435⟩, -, X435, ⟨Lc435, hQ435, l435, y435, z435⟩, st435⟩ := X434.virtualBack hx (y := (⟨"com/example/entail/entail/model/EntrySettings", "blocks", "()Z"⟩ : MethodName)) (z := (⟨"com/example/entail/entail/model/EntrySettings", "blocks", "()Z"⟩ : MethodName)) hown (mvT hZ (hw _ (List.mem_of_getElem? (i := 88) rfl))) (mvT hZ (hw _ (List.mem_of_getElem? (i := 89) rfl))) (notFace_of_selects (args := #[]) (mvT hZ (hw _ (List.mem_of_getElem? (i := 91) rfl)))) (mvT hZ (hw _ (List.mem_of_getElem? (i := 91) rfl))) (mvT hZ (hw _ (List.mem_of_getElem? (i := 90) rfl))) (by decide) (backOf (W := 0) (r11_408 l Z a0 hw [] T434.heap n0 Z434 b307 fq434_3) hZ (hw _ (List.mem_of_getElem? (i := 92) rfl)) (hw _ (List.mem_of_getElem? (i := 2) rfl)) (by decide) (by decide)) q435a q435c (g := (mkF m 65 #[iv p1, iv p2, iv 1, iv 0, rv b307, iv 0, iv 1, iv 1, iv 1, .unset, .unset] [(.ref b307)])) rfl (by rw [hml]; rfl) (Steps.refl _) (argsL := []) (rest := []) (lenOf pd5 rfl) rfl (by show 2 * 0 + _ ≤ _; exact Nat.le_of_eq rfl) (hb hby at_65) (fun _ _ => ⟨rfl, rfl, (by decide : 3 + 0 ≤ _), (by decide : 10 + 0 ≤ _)⟩)
        dsimp only [Pt.U, Pt.locs, Pt.cells, Pt.slots] at X435 l435 y435 z435 st435 hQ435
        subst l435 y435 z435
        obtain ⟨rfl, Nq435, e435⟩ := hQ435
        have N435 := Fr.app N434 Nq435
        refine Goes.tr st435 ?_
        refine Goes.by (fun _ kz => XS.istore X435.here hx rfl (hb hby at_68) rfl (l' := #[iv p1, iv p2, iv 1, iv 0, rv b307, iv 0, iv 1, iv 1, iv 1, iv 0, .unset]) rfl (XS.iload X435.here hx rfl (hb hby at_70) rfl (XS.ifNo X435.here hx rfl (hb hby at_72) rfl ((if0 _ _).trans (teq (by decide : (0 : Int32) = (0 : Int32))).2) kz))) ?_
        show Goes p e below (T435.setTop (mkF m 75 #[iv p1, iv p2, iv 1, iv 0, rv b307, iv 0, iv 1, iv 1, iv 1, iv 0, .unset] [])) _
        refine Goes.by (fun _ kz => XS.iconst X435.here hx rfl (hb hby at_75) (XS.goto X435.here hx rfl (pc0 := 76) (pc' := 80) rfl (hb hby at_76) (by decide) (by decide) (XS.istore X435.here hx rfl (hb hby at_80) rfl (l' := #[iv p1, iv p2, iv 1, iv 0, rv b307, iv 0, iv 1, iv 1, iv 1, iv 0, iv 1]) rfl kz))) ?_
        show Goes p e below (T435.setTop (mkF m 82 #[iv p1, iv p2, iv 1, iv 0, rv b307, iv 0, iv 1, iv 1, iv 1, iv 0, iv 1] [])) _
        refine Goes.by (fun _ kz => XS.iload X435.here hx rfl (hb hby at_82) rfl (XS.ifNo X435.here hx rfl (hb hby at_84) rfl ((if0 _ _).trans (feq (by decide : ¬ ((1 : Int32) = (0 : Int32)))).1) (XS.iload X435.here hx rfl (hb hby at_87) rfl kz))) ?_
        show Goes p e below (T435.setTop (mkF m 89 #[iv p1, iv p2, iv 1, iv 0, rv b307, iv 0, iv 1, iv 1, iv 1, iv 0, iv 1] [(.int 1)])) _
        refine Goes.by (fun _ kz => XS.iloadN X435.here hx rfl (hb hby at_89) rfl (XS.icmpNo X435.here hx rfl (hb hby at_90) rfl (teq (by decide : (1 : Int32) = (1 : Int32))).2 (XS.iconst X435.here hx rfl (hb hby at_93) kz))) ?_
        show Goes p e below (T435.setTop (mkF m 94 #[iv p1, iv p2, iv 1, iv 0, rv b307, iv 0, iv 1, iv 1, iv 1, iv 0, iv 1] [(.int 1)])) _
        refine Goes.by (fun _ kz => XS.goto X435.here hx rfl (pc0 := 94) (pc' := 98) rfl (hb hby at_94) (by decide) (by decide) (XS.istore X435.here hx rfl (hb hby at_98) rfl (l' := #[iv p1, iv p2, iv 1, iv 0, rv b307, iv 0, iv 1, iv 1, iv 1, iv 0, iv 1]) rfl (XS.iload X435.here hx rfl (hb hby at_100) rfl kz))) ?_
        show Goes p e below (T435.setTop (mkF m 102 #[iv p1, iv p2, iv 1, iv 0, rv b307, iv 0, iv 1, iv 1, iv 1, iv 0, iv 1] [(.int 1)])) _
        refine Goes.by (fun _ kz => XS.ifNo X435.here hx rfl (hb hby at_102) rfl ((if0 _ _).trans (feq (by decide : ¬ ((1 : Int32) = (0 : Int32)))).1) (XS.iload X435.here hx rfl (hb hby at_105) rfl (XS.iloadN X435.here hx rfl (hb hby at_107) rfl kz))) ?_
        show Goes p e below (T435.setTop (mkF m 108 #[iv p1, iv p2, iv 1, iv 0, rv b307, iv 0, iv 1, iv 1, iv 1, iv 0, iv 1] [(.int 1), (.int 1)])) _
        refine Goes.by (fun _ kz => XS.icmpNo X435.here hx rfl (hb hby at_108) rfl (teq (by decide : (1 : Int32) = (1 : Int32))).2 (XS.iconst X435.here hx rfl (hb hby at_111) (XS.goto X435.here hx rfl (pc0 := 112) (pc' := 116) rfl (hb hby at_112) (by decide) (by decide) kz))) ?_
        show Goes p e below (T435.setTop (mkF m 116 #[iv p1, iv p2, iv 1, iv 0, rv b307, iv 0, iv 1, iv 1, iv 1, iv 0, iv 1] [(.int 1)])) _
        refine Goes.by (fun _ kz => XS.istore X435.here hx rfl (hb hby at_116) rfl (l' := #[iv p1, iv p2, iv 1, iv 0, rv b307, iv 0, iv 1, iv 1, iv 1, iv 0, iv 1]) rfl (XS.iload X435.here hx rfl (hb hby at_118) rfl (XS.ifNo X435.here hx rfl (hb hby at_120) rfl ((if0 _ _).trans (feq (by decide : ¬ ((1 : Int32) = (0 : Int32)))).1) kz))) ?_
        show Goes p e below (T435.setTop (mkF m 123 #[iv p1, iv p2, iv 1, iv 0, rv b307, iv 0, iv 1, iv 1, iv 1, iv 0, iv 1] [])) _
        refine Goes.by (fun _ kz => XS.iload X435.here hx rfl (hb hby at_123) rfl (XS.iloadN X435.here hx rfl (hb hby at_125) rfl (XS.iloadN X435.here hx rfl (hb hby at_126) rfl kz))) ?_
        show Goes p e below (T435.setTop (mkF m 127 #[iv p1, iv p2, iv 1, iv 0, rv b307, iv 0, iv 1, iv 1, iv 1, iv 0, iv 1] [(.int 0), (.int 1), (.int 1)])) _
        refine Goes.by (fun _ kz => XS.icmpNo X435.here hx rfl (hb hby at_127) rfl (feq (by decide : ¬ ((1 : Int32) = (0 : Int32)))).1 (XS.iconst X435.here hx rfl (hb hby at_130) (XS.goto X435.here hx rfl (pc0 := 131) (pc' := 135) rfl (hb hby at_131) (by decide) (by decide) kz))) ?_
        show Goes p e below (T435.setTop (mkF m 135 #[iv p1, iv p2, iv 1, iv 0, rv b307, iv 0, iv 1, iv 1, iv 1, iv 0, iv 1] [(.int 1), (.int 1)])) _
        refine Goes.by (fun _ kz => XS.icmpNo X435.here hx rfl (hb hby at_135) rfl (teq (by decide : (1 : Int32) = (1 : Int32))).2 (XS.iconst X435.here hx rfl (hb hby at_138) (XS.goto X435.here hx rfl (pc0 := 139) (pc' := 143) rfl (hb hby at_139) (by decide) (by decide) kz))) ?_
        show Goes p e below (T435.setTop (mkF m 143 #[iv p1, iv p2, iv 1, iv 0, rv b307, iv 0, iv 1, iv 1, iv 1, iv 0, iv 1] [(.int 1)])) _
        refine Goes.by (fun _ kz => XS.istore X435.here hx rfl (hb hby at_143) rfl (l' := #[iv p1, iv p2, iv 1, iv 0, rv b307, iv 0, iv 1, iv 1, iv 1, iv 0, iv 1]) rfl (XS.iload X435.here hx rfl (hb hby at_145) rfl (XS.ifNo X435.here hx rfl (hb hby at_147) rfl ((if0 _ _).trans (feq (by decide : ¬ ((1 : Int32) = (0 : Int32)))).1) kz))) ?_
        show Goes p e below (T435.setTop (mkF m 150 #[iv p1, iv p2, iv 1, iv 0, rv b307, iv 0, iv 1, iv 1, iv 1, iv 0, iv 1] [])) _
        refine Goes.by (fun _ kz => XS.iload X435.here hx rfl (hb hby at_150) rfl (XS.iloadN X435.here hx rfl (hb hby at_152) rfl (XS.icmpNo X435.here hx rfl (hb hby at_153) rfl (teq (by decide : (0 : Int32) = (0 : Int32))).2 kz))) ?_
        show Goes p e below (T435.setTop (mkF m 156 #[iv p1, iv p2, iv 1, iv 0, rv b307, iv 0, iv 1, iv 1, iv 1, iv 0, iv 1] [])) _
        refine Goes.by (fun _ kz => XS.iconst X435.here hx rfl (hb hby at_156) (XS.goto X435.here hx rfl (pc0 := 157) (pc' := 161) rfl (hb hby at_157) (by decide) (by decide) (XS.istore X435.here hx rfl (hb hby at_161) rfl (l' := #[iv p1, iv p2, iv 1, iv 0, rv b307, iv 0, iv 1, iv 1, iv 1, iv 0, iv 1]) rfl kz))) ?_
        show Goes p e below (T435.setTop (mkF m 163 #[iv p1, iv p2, iv 1, iv 0, rv b307, iv 0, iv 1, iv 1, iv 1, iv 0, iv 1] [])) _
        refine Goes.by (fun _ kz => XS.iload X435.here hx rfl (hb hby at_163) rfl kz) ?_
        show Goes p e below (T435.setTop (mkF m 165 #[iv p1, iv p2, iv 1, iv 0, rv b307, iv 0, iv 1, iv 1, iv 1, iv 0, iv 1] [(.int 1)])) _
        obtain ⟨fs, hr, hrun, hended, hW, hsame⟩ := X435.leave (v := some (.int 1)) (fun h => by rw [Bd.returns] at h; cases h)
        exact ⟨_, _, retN X435 hx (t := .boolean) Bd.returns (by simp) (hb hby at_165) hr, hrun, hended, _, _, rfl, ⟨rfl, N435⟩, ⟨_, rfl⟩, hW, hsame.mono (by decide) (by decide)⟩
      · obtain ⟨b311_408, rfl, Nq408, Kq408, sq408_b311, fq408_0, fq408_1, fq408_2, fq408_3, fq408_4, fq408_5, fq408_6, hc408_362_338, hc408_362_341⟩ := hQ408
        have K408 : Keep h0 T408.heap [] := Keep.trans K307 Kq408 (allS (Or.inr sz_b307) all0)
        have Z408 : n0 ≤ T408.heap.size := Nat.le_trans Z307 Kq408.1
        have ne408_b311_b307 : b307 ≠ b311_408 := Nat.ne_of_lt (Nat.lt_of_lt_of_le A307.lt sq408_b311)
        have g_b311_408 : n0 ≤ b311_408 := Nat.le_trans Z307 sq408_b311
        have sz_b311_408 : h0.size ≤ b311_408 := Nat.le_trans K307.1 sq408_b311
        have N408 := Fr.app N0 Nq408
        refine Goes.tr st408 ?_
        refine Goes.by (fun _ kz => XS.astore X408.here hx rfl (hb hby at_31) rfl rfl (l' := #[iv p1, iv p2, iv 1, iv 0, rv b307, .unset, .unset, .unset, .unset, .unset, .unset]) rfl (XS.aload X408.here hx rfl (hb hby at_33) rfl rfl kz)) ?_
        have f438 := (A307.keep Kq408)
        obtain ⟨cq437, kq437, q437a, q437b, q437c⟩ := isOf hZ rfl f438
        obtain ⟨_, _, ⟨T437, L437, k437, n437⟩, -, X437, ⟨Lc437, hQ437, l437, y437, z437⟩, st437⟩ := X408.virtualBack hx (y := (⟨"com/example/entail/entail/model/EntrySettings", "blocks", "()Z"⟩ : MethodName)) (z := (⟨"com/example/entail/entail/model/EntrySettings", "blocks", "()Z"⟩ : MethodName)) hown (mvT hZ (hw _ (List.mem_of_getElem? (i := 88) rfl))) (mvT hZ (hw _ (List.mem_of_getElem? (i := 89) rfl))) (notFace_of_selects (args := #[]) (mvT hZ (hw _ (List.mem_of_getElem? (i := 91) rfl)))) (mvT hZ (hw _ (List.mem_of_getElem? (i := 91) rfl))) (mvT hZ (hw _ (List.mem_of_getElem? (i := 90) rfl))) (by decide) (backOf (W := 0) (r11_408 l Z a0 hw [] T408.heap n0 Z408 b307 fq408_3) hZ (hw _ (List.mem_of_getElem? (i := 92) rfl)) (hw _ (List.mem_of_getElem? (i := 2) rfl)) (by decide) (by decide)) q437a q437c (g := (mkF m 35 #[iv p1, iv p2, iv 1, iv 0, rv b307, .unset, .unset, .unset, .unset, .unset, .unset] [(.ref b307)])) rfl (by rw [hml]; rfl) (Steps.refl _) (argsL := []) (rest := []) (lenOf pd5 rfl) rfl (by show 2 * 0 + _ ≤ _; exact Nat.le_of_eq rfl) (hb hby at_35) (fun _ _ => ⟨rfl, rfl, (by decide : 3 + 0 ≤ _), (by decide : 10 + 0 ≤ _)⟩)
        dsimp only [Pt.U, Pt.locs, Pt.cells, Pt.slots] at X437 l437 y437 z437 st437 hQ437
        subst l437 y437 z437
        obtain ⟨rfl, Nq437, e437⟩ := hQ437
        have N437 := Fr.app N408 Nq437
        refine Goes.tr st437 ?_
        refine Goes.by (fun _ kz => XS.istore X437.here hx rfl (hb hby at_38) rfl (l' := #[iv p1, iv p2, iv 1, iv 0, rv b307, iv 0, .unset, .unset, .unset, .unset, .unset]) rfl (XS.aload X437.here hx rfl (hb hby at_40) rfl rfl (XS.iloadN X437.here hx rfl (hb hby at_42) rfl kz))) ?_
        obtain ⟨cq439, kq439, q439a, q439b, q439c⟩ := isOf hZ e437 f438
        obtain ⟨_, _, ⟨T439, L439, k439, n439⟩, -, X439, ⟨Lc439, hQ439, l439, y439, z439⟩, st439⟩ := X437.virtualBack hx (y := (⟨"com/example/entail/entail/model/EntrySettings", "setBlocks", "(Z)Z"⟩ : MethodName)) (z := (⟨"com/example/entail/entail/model/EntrySettings", "setBlocks", "(Z)Z"⟩ : MethodName)) hown (mvT hZ (hw _ (List.mem_of_getElem? (i := 95) rfl))) (mvT hZ (hw _ (List.mem_of_getElem? (i := 96) rfl))) (notFace_of_selects (args := #[]) (mvT hZ (hw _ (List.mem_of_getElem? (i := 98) rfl)))) (mvT hZ (hw _ (List.mem_of_getElem? (i := 98) rfl))) (mvT hZ (hw _ (List.mem_of_getElem? (i := 97) rfl))) (by decide) (backOf (W := 0) (r12_413 l Z a0 hw [] T408.heap n0 Z408 q2 b307 b311_408 f438 fq408_0 fq408_1 fq408_2 fq408_3 g_b307) hZ (hw _ (List.mem_of_getElem? (i := 99) rfl)) (hw _ (List.mem_of_getElem? (i := 2) rfl)) (by decide) (by decide)) q439a q439c (g := (mkF m 43 #[iv p1, iv p2, iv 1, iv 0, rv b307, iv 0, .unset, .unset, .unset, .unset, .unset] [(.int 1), (.ref b307)])) rfl (by rw [hml]; rfl) (Steps.refl _) (argsL := [(.int 1)]) (rest := []) (lenOf pd6 rfl) rfl (by show 2 * 0 + _ ≤ _; exact Nat.le_of_eq rfl) (hb hby at_43) (fun _ _ => ⟨rfl, e437, (by decide : 3 + 0 ≤ _), (by decide : 10 + 0 ≤ _)⟩)
        dsimp only [Pt.U, Pt.locs, Pt.cells, Pt.slots] at X439 l439 y439 z439 st439 hQ439
        subst l439 y439 z439
        obtain ⟨rfl, Nq439, Kq439, fq439_0, fq439_1, fq439_2, fq439_3⟩ := hQ439
        have K439 : Keep h0 T439.heap [] := Keep.trans K408 Kq439 (allS (Or.inr sz_b307) all0)
        have Z439 : n0 ≤ T439.heap.size := Nat.le_trans Z408 Kq439.1
        have N439 := Fr.app N437 Nq439
        refine Goes.tr st439 ?_
        refine Goes.by (fun _ kz => XS.istore X439.here hx rfl (hb hby at_46) rfl (l' := #[iv p1, iv p2, iv 1, iv 0, rv b307, iv 0, iv 1, .unset, .unset, .unset, .unset]) rfl (XS.aload X439.here hx rfl (hb hby at_48) rfl rfl kz)) ?_
        have f441 := (f438.keep Kq439)
        obtain ⟨cq440, kq440, q440a, q440b, q440c⟩ := isOf hZ rfl f441
        obtain ⟨_, _, ⟨T440, L440, k440, n440⟩, -, X440, ⟨Lc440, hQ440, l440, y440, z440⟩, st440⟩ := X439.virtualBack hx (y := (⟨"com/example/entail/entail/model/EntrySettings", "blocks", "()Z"⟩ : MethodName)) (z := (⟨"com/example/entail/entail/model/EntrySettings", "blocks", "()Z"⟩ : MethodName)) hown (mvT hZ (hw _ (List.mem_of_getElem? (i := 88) rfl))) (mvT hZ (hw _ (List.mem_of_getElem? (i := 89) rfl))) (notFace_of_selects (args := #[]) (mvT hZ (hw _ (List.mem_of_getElem? (i := 91) rfl)))) (mvT hZ (hw _ (List.mem_of_getElem? (i := 91) rfl))) (mvT hZ (hw _ (List.mem_of_getElem? (i := 90) rfl))) (by decide) (backOf (W := 0) (r11_421 l Z a0 hw [] T439.heap n0 Z439 b307 fq439_3) hZ (hw _ (List.mem_of_getElem? (i := 92) rfl)) (hw _ (List.mem_of_getElem? (i := 2) rfl)) (by decide) (by decide)) q440a q440c (g := (mkF m 50 #[iv p1, iv p2, iv 1, iv 0, rv b307, iv 0, iv 1, .unset, .unset, .unset, .unset] [(.ref b307)])) rfl (by rw [hml]; rfl) (Steps.refl _) (argsL := []) (rest := []) (lenOf pd5 rfl) rfl (by show 2 * 0 + _ ≤ _; exact Nat.le_of_eq rfl) (hb hby at_50) (fun _ _ => ⟨rfl, rfl, (by decide : 3 + 0 ≤ _), (by decide : 10 + 0 ≤ _)⟩)
        dsimp only [Pt.U, Pt.locs, Pt.cells, Pt.slots] at X440 l440 y440 z440 st440 hQ440
        subst l440 y440 z440
        obtain ⟨rfl, Nq440, e440⟩ := hQ440
        have N440 := Fr.app N439 Nq440
        refine Goes.tr st440 ?_
        refine Goes.by (fun _ kz => XS.istore X440.here hx rfl (hb hby at_53) rfl (l' := #[iv p1, iv p2, iv 1, iv 0, rv b307, iv 0, iv 1, iv 1, .unset, .unset, .unset]) rfl (XS.aload X440.here hx rfl (hb hby at_55) rfl rfl (XS.iloadN X440.here hx rfl (hb hby at_57) rfl kz))) ?_
        obtain ⟨cq442, kq442, q442a, q442b, q442c⟩ := isOf hZ e440 f441
        obtain ⟨_, _, ⟨T442, L442, k442, n442⟩, -, X442, ⟨Lc442, hQ442, l442, y442, z442⟩, st442⟩ := X440.virtualBack hx (y := (⟨"com/example/entail/entail/model/EntrySettings", "setBlocks", "(Z)Z"⟩ : MethodName)) (z := (⟨"com/example/entail/entail/model/EntrySettings", "setBlocks", "(Z)Z"⟩ : MethodName)) hown (mvT hZ (hw _ (List.mem_of_getElem? (i := 95) rfl))) (mvT hZ (hw _ (List.mem_of_getElem? (i := 96) rfl))) (notFace_of_selects (args := #[]) (mvT hZ (hw _ (List.mem_of_getElem? (i := 98) rfl)))) (mvT hZ (hw _ (List.mem_of_getElem? (i := 98) rfl))) (mvT hZ (hw _ (List.mem_of_getElem? (i := 97) rfl))) (by decide) (backOf (W := 0) (r12_426 l Z a0 hw [] T439.heap n0 Z439 q2 b307 b311_408 f441 fq439_0 fq439_1 fq439_2 fq439_3 g_b307) hZ (hw _ (List.mem_of_getElem? (i := 99) rfl)) (hw _ (List.mem_of_getElem? (i := 2) rfl)) (by decide) (by decide)) q442a q442c (g := (mkF m 58 #[iv p1, iv p2, iv 1, iv 0, rv b307, iv 0, iv 1, iv 1, .unset, .unset, .unset] [(.int 0), (.ref b307)])) rfl (by rw [hml]; rfl) (Steps.refl _) (argsL := [(.int 0)]) (rest := []) (lenOf pd6 rfl) rfl (by show 2 * 0 + _ ≤ _; exact Nat.le_of_eq rfl) (hb hby at_58) (fun _ _ => ⟨rfl, e440, (by decide : 3 + 0 ≤ _), (by decide : 10 + 0 ≤ _)⟩)
        dsimp only [Pt.U, Pt.locs, Pt.cells, Pt.slots] at X442 l442 y442 z442 st442 hQ442
        subst l442 y442 z442
        obtain ⟨rfl, Nq442, Kq442, fq442_0, fq442_1, fq442_2, fq442_3⟩ := hQ442
        have K442 : Keep h0 T442.heap [] := Keep.trans K439 Kq442 (allS (Or.inr sz_b307) all0)
        have Z442 : n0 ≤ T442.heap.size := Nat.le_trans Z439 Kq442.1
        have N442 := Fr.app N440 Nq442
        refine Goes.tr st442 ?_
        refine Goes.by (fun _ kz => XS.istore X442.here hx rfl (hb hby at_61) rfl (l' := #[iv p1, iv p2, iv 1, iv 0, rv b307, iv 0, iv 1, iv 1, iv 1, .unset, .unset]) rfl (XS.aload X442.here hx rfl (hb hby at_63) rfl rfl kz)) ?_
        have f444 := (f441.keep Kq442)
        obtain ⟨cq443, kq443, q443a, q443b, q443c⟩ := isOf hZ rfl f444
        obtain ⟨_, _, ⟨T443, L443, k443, n443⟩, -, X443, ⟨Lc443, hQ443, l443, y443, z443⟩, st443⟩ := X442.virtualBack hx (y := (⟨"com/example/entail/entail/model/EntrySettings", "blocks", "()Z"⟩ : MethodName)) (z := (⟨"com/example/entail/entail/model/EntrySettings", "blocks", "()Z"⟩ : MethodName)) hown (mvT hZ (hw _ (List.mem_of_getElem? (i := 88) rfl))) (mvT hZ (hw _ (List.mem_of_getElem? (i := 89) rfl))) (notFace_of_selects (args := #[]) (mvT hZ (hw _ (List.mem_of_getElem? (i := 91) rfl)))) (mvT hZ (hw _ (List.mem_of_getElem? (i := 91) rfl))) (mvT hZ (hw _ (List.mem_of_getElem? (i := 90) rfl))) (by decide) (backOf (W := 0) (r11_408 l Z a0 hw [] T442.heap n0 Z442 b307 fq442_3) hZ (hw _ (List.mem_of_getElem? (i := 92) rfl)) (hw _ (List.mem_of_getElem? (i := 2) rfl)) (by decide) (by decide)) q443a q443c (g := (mkF m 65 #[iv p1, iv p2, iv 1, iv 0, rv b307, iv 0, iv 1, iv 1, iv 1, .unset, .unset] [(.ref b307)])) rfl (by rw [hml]; rfl) (Steps.refl _) (argsL := []) (rest := []) (lenOf pd5 rfl) rfl (by show 2 * 0 + _ ≤ _; exact Nat.le_of_eq rfl) (hb hby at_65) (fun _ _ => ⟨rfl, rfl, (by decide : 3 + 0 ≤ _), (by decide : 10 + 0 ≤ _)⟩)
        dsimp only [Pt.U, Pt.locs, Pt.cells, Pt.slots] at X443 l443 y443 z443 st443 hQ443
        subst l443 y443 z443
        obtain ⟨rfl, Nq443, e443⟩ := hQ443
        have N443 := Fr.app N442 Nq443
        refine Goes.tr st443 ?_
        refine Goes.by (fun _ kz => XS.istore X443.here hx rfl (hb hby at_68) rfl (l' := #[iv p1, iv p2, iv 1, iv 0, rv b307, iv 0, iv 1, iv 1, iv 1, iv 0, .unset]) rfl (XS.iload X443.here hx rfl (hb hby at_70) rfl (XS.ifNo X443.here hx rfl (hb hby at_72) rfl ((if0 _ _).trans (teq (by decide : (0 : Int32) = (0 : Int32))).2) kz))) ?_
        show Goes p e below (T443.setTop (mkF m 75 #[iv p1, iv p2, iv 1, iv 0, rv b307, iv 0, iv 1, iv 1, iv 1, iv 0, .unset] [])) _
        refine Goes.by (fun _ kz => XS.iconst X443.here hx rfl (hb hby at_75) (XS.goto X443.here hx rfl (pc0 := 76) (pc' := 80) rfl (hb hby at_76) (by decide) (by decide) (XS.istore X443.here hx rfl (hb hby at_80) rfl (l' := #[iv p1, iv p2, iv 1, iv 0, rv b307, iv 0, iv 1, iv 1, iv 1, iv 0, iv 1]) rfl kz))) ?_
        show Goes p e below (T443.setTop (mkF m 82 #[iv p1, iv p2, iv 1, iv 0, rv b307, iv 0, iv 1, iv 1, iv 1, iv 0, iv 1] [])) _
        refine Goes.by (fun _ kz => XS.iload X443.here hx rfl (hb hby at_82) rfl (XS.ifNo X443.here hx rfl (hb hby at_84) rfl ((if0 _ _).trans (feq (by decide : ¬ ((1 : Int32) = (0 : Int32)))).1) (XS.iload X443.here hx rfl (hb hby at_87) rfl kz))) ?_
        show Goes p e below (T443.setTop (mkF m 89 #[iv p1, iv p2, iv 1, iv 0, rv b307, iv 0, iv 1, iv 1, iv 1, iv 0, iv 1] [(.int 1)])) _
        refine Goes.by (fun _ kz => XS.iloadN X443.here hx rfl (hb hby at_89) rfl (XS.icmpNo X443.here hx rfl (hb hby at_90) rfl (teq (by decide : (1 : Int32) = (1 : Int32))).2 (XS.iconst X443.here hx rfl (hb hby at_93) kz))) ?_
        show Goes p e below (T443.setTop (mkF m 94 #[iv p1, iv p2, iv 1, iv 0, rv b307, iv 0, iv 1, iv 1, iv 1, iv 0, iv 1] [(.int 1)])) _
        refine Goes.by (fun _ kz => XS.goto X443.here hx rfl (pc0 := 94) (pc' := 98) rfl (hb hby at_94) (by decide) (by decide) (XS.istore X443.here hx rfl (hb hby at_98) rfl (l' := #[iv p1, iv p2, iv 1, iv 0, rv b307, iv 0, iv 1, iv 1, iv 1, iv 0, iv 1]) rfl (XS.iload X443.here hx rfl (hb hby at_100) rfl kz))) ?_
        show Goes p e below (T443.setTop (mkF m 102 #[iv p1, iv p2, iv 1, iv 0, rv b307, iv 0, iv 1, iv 1, iv 1, iv 0, iv 1] [(.int 1)])) _
        refine Goes.by (fun _ kz => XS.ifNo X443.here hx rfl (hb hby at_102) rfl ((if0 _ _).trans (feq (by decide : ¬ ((1 : Int32) = (0 : Int32)))).1) (XS.iload X443.here hx rfl (hb hby at_105) rfl (XS.iloadN X443.here hx rfl (hb hby at_107) rfl kz))) ?_
        show Goes p e below (T443.setTop (mkF m 108 #[iv p1, iv p2, iv 1, iv 0, rv b307, iv 0, iv 1, iv 1, iv 1, iv 0, iv 1] [(.int 1), (.int 1)])) _
        refine Goes.by (fun _ kz => XS.icmpNo X443.here hx rfl (hb hby at_108) rfl (teq (by decide : (1 : Int32) = (1 : Int32))).2 (XS.iconst X443.here hx rfl (hb hby at_111) (XS.goto X443.here hx rfl (pc0 := 112) (pc' := 116) rfl (hb hby at_112) (by decide) (by decide) kz))) ?_
        show Goes p e below (T443.setTop (mkF m 116 #[iv p1, iv p2, iv 1, iv 0, rv b307, iv 0, iv 1, iv 1, iv 1, iv 0, iv 1] [(.int 1)])) _
        refine Goes.by (fun _ kz => XS.istore X443.here hx rfl (hb hby at_116) rfl (l' := #[iv p1, iv p2, iv 1, iv 0, rv b307, iv 0, iv 1, iv 1, iv 1, iv 0, iv 1]) rfl (XS.iload X443.here hx rfl (hb hby at_118) rfl (XS.ifNo X443.here hx rfl (hb hby at_120) rfl ((if0 _ _).trans (feq (by decide : ¬ ((1 : Int32) = (0 : Int32)))).1) kz))) ?_
        show Goes p e below (T443.setTop (mkF m 123 #[iv p1, iv p2, iv 1, iv 0, rv b307, iv 0, iv 1, iv 1, iv 1, iv 0, iv 1] [])) _
        refine Goes.by (fun _ kz => XS.iload X443.here hx rfl (hb hby at_123) rfl (XS.iloadN X443.here hx rfl (hb hby at_125) rfl (XS.iloadN X443.here hx rfl (hb hby at_126) rfl kz))) ?_
        show Goes p e below (T443.setTop (mkF m 127 #[iv p1, iv p2, iv 1, iv 0, rv b307, iv 0, iv 1, iv 1, iv 1, iv 0, iv 1] [(.int 0), (.int 1), (.int 1)])) _
        refine Goes.by (fun _ kz => XS.icmpNo X443.here hx rfl (hb hby at_127) rfl (feq (by decide : ¬ ((1 : Int32) = (0 : Int32)))).1 (XS.iconst X443.here hx rfl (hb hby at_130) (XS.goto X443.here hx rfl (pc0 := 131) (pc' := 135) rfl (hb hby at_131) (by decide) (by decide) kz))) ?_
        show Goes p e below (T443.setTop (mkF m 135 #[iv p1, iv p2, iv 1, iv 0, rv b307, iv 0, iv 1, iv 1, iv 1, iv 0, iv 1] [(.int 1), (.int 1)])) _
        refine Goes.by (fun _ kz => XS.icmpNo X443.here hx rfl (hb hby at_135) rfl (teq (by decide : (1 : Int32) = (1 : Int32))).2 (XS.iconst X443.here hx rfl (hb hby at_138) (XS.goto X443.here hx rfl (pc0 := 139) (pc' := 143) rfl (hb hby at_139) (by decide) (by decide) kz))) ?_
        show Goes p e below (T443.setTop (mkF m 143 #[iv p1, iv p2, iv 1, iv 0, rv b307, iv 0, iv 1, iv 1, iv 1, iv 0, iv 1] [(.int 1)])) _
        refine Goes.by (fun _ kz => XS.istore X443.here hx rfl (hb hby at_143) rfl (l' := #[iv p1, iv p2, iv 1, iv 0, rv b307, iv 0, iv 1, iv 1, iv 1, iv 0, iv 1]) rfl (XS.iload X443.here hx rfl (hb hby at_145) rfl (XS.ifNo X443.here hx rfl (hb hby at_147) rfl ((if0 _ _).trans (feq (by decide : ¬ ((1 : Int32) = (0 : Int32)))).1) kz))) ?_
        show Goes p e below (T443.setTop (mkF m 150 #[iv p1, iv p2, iv 1, iv 0, rv b307, iv 0, iv 1, iv 1, iv 1, iv 0, iv 1] [])) _
        refine Goes.by (fun _ kz => XS.iload X443.here hx rfl (hb hby at_150) rfl (XS.iloadN X443.here hx rfl (hb hby at_152) rfl (XS.icmpNo X443.here hx rfl (hb hby at_153) rfl (teq (by decide : (0 : Int32) = (0 : Int32))).2 kz))) ?_
        show Goes p e below (T443.setTop (mkF m 156 #[iv p1, iv p2, iv 1, iv 0, rv b307, iv 0, iv 1, iv 1, iv 1, iv 0, iv 1] [])) _
        refine Goes.by (fun _ kz => XS.iconst X443.here hx rfl (hb hby at_156) (XS.goto X443.here hx rfl (pc0 := 157) (pc' := 161) rfl (hb hby at_157) (by decide) (by decide) (XS.istore X443.here hx rfl (hb hby at_161) rfl (l' := #[iv p1, iv p2, iv 1, iv 0, rv b307, iv 0, iv 1, iv 1, iv 1, iv 0, iv 1]) rfl kz))) ?_
        show Goes p e below (T443.setTop (mkF m 163 #[iv p1, iv p2, iv 1, iv 0, rv b307, iv 0, iv 1, iv 1, iv 1, iv 0, iv 1] [])) _
        refine Goes.by (fun _ kz => XS.iload X443.here hx rfl (hb hby at_163) rfl kz) ?_
        show Goes p e below (T443.setTop (mkF m 165 #[iv p1, iv p2, iv 1, iv 0, rv b307, iv 0, iv 1, iv 1, iv 1, iv 0, iv 1] [(.int 1)])) _
        obtain ⟨fs, hr, hrun, hended, hW, hsame⟩ := X443.leave (v := some (.int 1)) (fun h => by rw [Bd.returns] at h; cases h)
        exact ⟨_, _, retN X443 hx (t := .boolean) Bd.returns (by simp) (hb hby at_165) hr, hrun, hended, _, _, rfl, ⟨rfl, N443⟩, ⟨_, rfl⟩, hW, hsame.mono (by decide) (by decide)⟩
      · obtain ⟨b311_408, b343_362_408, rfl, Nq408, Kq408, sq408_b311, sq408_b343_362, fq408_0, fq408_1, fq408_2, fq408_3, fq408_4, fq408_5, fq408_6, fq408_7, fq408_8, fq408_9, hc408_362_338, hc408_362_341⟩ := hQ408
        have K408 : Keep h0 T408.heap [] := Keep.trans K307 Kq408 (allS (Or.inr sz_b307) all0)
        have Z408 : n0 ≤ T408.heap.size := Nat.le_trans Z307 Kq408.1
        have ne408_b311_b307 : b307 ≠ b311_408 := Nat.ne_of_lt (Nat.lt_of_lt_of_le A307.lt sq408_b311)
        have g_b311_408 : n0 ≤ b311_408 := Nat.le_trans Z307 sq408_b311
        have sz_b311_408 : h0.size ≤ b311_408 := Nat.le_trans K307.1 sq408_b311
        have ne408_b343_362_b307 : b307 ≠ b343_362_408 := Nat.ne_of_lt (Nat.lt_of_lt_of_le A307.lt sq408_b343_362)
        have g_b343_362_408 : n0 ≤ b343_362_408 := Nat.le_trans Z307 sq408_b343_362
        have sz_b343_362_408 : h0.size ≤ b343_362_408 := Nat.le_trans K307.1 sq408_b343_362
        have N408 := Fr.app N0 Nq408
        refine Goes.tr st408 ?_
        refine Goes.by (fun _ kz => XS.astore X408.here hx rfl (hb hby at_31) rfl rfl (l' := #[iv p1, iv p2, iv 1, iv 0, rv b307, .unset, .unset, .unset, .unset, .unset, .unset]) rfl (XS.aload X408.here hx rfl (hb hby at_33) rfl rfl kz)) ?_
        have f446 := (A307.keep Kq408)
        obtain ⟨cq445, kq445, q445a, q445b, q445c⟩ := isOf hZ rfl f446
        obtain ⟨_, _, ⟨T445, L445, k445, n445⟩, -, X445, ⟨Lc445, hQ445, l445, y445, z445⟩, st445⟩ := X408.virtualBack hx (y := (⟨"com/example/entail/entail/model/EntrySettings", "blocks", "()Z"⟩ : MethodName)) (z := (⟨"com/example/entail/entail/model/EntrySettings", "blocks", "()Z"⟩ : MethodName)) hown (mvT hZ (hw _ (List.mem_of_getElem? (i := 88) rfl))) (mvT hZ (hw _ (List.mem_of_getElem? (i := 89) rfl))) (notFace_of_selects (args := #[]) (mvT hZ (hw _ (List.mem_of_getElem? (i := 91) rfl)))) (mvT hZ (hw _ (List.mem_of_getElem? (i := 91) rfl))) (mvT hZ (hw _ (List.mem_of_getElem? (i := 90) rfl))) (by decide) (backOf (W := 0) (r11_408 l Z a0 hw [] T408.heap n0 Z408 b307 fq408_3) hZ (hw _ (List.mem_of_getElem? (i := 92) rfl)) (hw _ (List.mem_of_getElem? (i := 2) rfl)) (by decide) (by decide)) q445a q445c (g := (mkF m 35 #[iv p1, iv p2, iv 1, iv 0, rv b307, .unset, .unset, .unset, .unset, .unset, .unset] [(.ref b307)])) rfl (by rw [hml]; rfl) (Steps.refl _) (argsL := []) (rest := []) (lenOf pd5 rfl) rfl (by show 2 * 0 + _ ≤ _; exact Nat.le_of_eq rfl) (hb hby at_35) (fun _ _ => ⟨rfl, rfl, (by decide : 3 + 0 ≤ _), (by decide : 10 + 0 ≤ _)⟩)
        dsimp only [Pt.U, Pt.locs, Pt.cells, Pt.slots] at X445 l445 y445 z445 st445 hQ445
        subst l445 y445 z445
        obtain ⟨rfl, Nq445, e445⟩ := hQ445
        have N445 := Fr.app N408 Nq445
        refine Goes.tr st445 ?_
        refine Goes.by (fun _ kz => XS.istore X445.here hx rfl (hb hby at_38) rfl (l' := #[iv p1, iv p2, iv 1, iv 0, rv b307, iv 0, .unset, .unset, .unset, .unset, .unset]) rfl (XS.aload X445.here hx rfl (hb hby at_40) rfl rfl (XS.iloadN X445.here hx rfl (hb hby at_42) rfl kz))) ?_
        obtain ⟨cq454, kq454, q454a, q454b, q454c⟩ := isOf hZ e445 f446
        obtain ⟨_, _, ⟨T454, L454, k454, n454⟩, -, X454, ⟨Lc454, hQ454, l454, y454, z454⟩, st454⟩ := X445.virtualBack hx (y := (⟨"com/example/entail/entail/model/EntrySettings", "setBlocks", "(Z)Z"⟩ : MethodName)) (z := (⟨"com/example/entail/entail/model/EntrySettings", "setBlocks", "(Z)Z"⟩ : MethodName)) hown (mvT hZ (hw _ (List.mem_of_getElem? (i := 95) rfl))) (mvT hZ (hw _ (List.mem_of_getElem? (i := 96) rfl))) (notFace_of_selects (args := #[]) (mvT hZ (hw _ (List.mem_of_getElem? (i := 98) rfl)))) (mvT hZ (hw _ (List.mem_of_getElem? (i := 98) rfl))) (mvT hZ (hw _ (List.mem_of_getElem? (i := 97) rfl))) (by decide) (backOf (W := 0) (r12_446 l Z a0 hw [] T408.heap n0 Z408 q2 b307 b311_408 b343_362_408 f446 fq408_0 fq408_1 fq408_2 fq408_3 g_b307) hZ (hw _ (List.mem_of_getElem? (i := 99) rfl)) (hw _ (List.mem_of_getElem? (i := 2) rfl)) (by decide) (by decide)) q454a q454c (g := (mkF m 43 #[iv p1, iv p2, iv 1, iv 0, rv b307, iv 0, .unset, .unset, .unset, .unset, .unset] [(.int 1), (.ref b307)])) rfl (by rw [hml]; rfl) (Steps.refl _) (argsL := [(.int 1)]) (rest := []) (lenOf pd6 rfl) rfl (by show 2 * 0 + _ ≤ _; exact Nat.le_of_eq rfl) (hb hby at_43) (fun _ _ => ⟨rfl, e445, (by decide : 3 + 0 ≤ _), (by decide : 10 + 0 ≤ _)⟩)
        dsimp only [Pt.U, Pt.locs, Pt.cells, Pt.slots] at X454 l454 y454 z454 st454 hQ454
        subst l454 y454 z454
        obtain ⟨rfl, Nq454, Kq454, fq454_0, fq454_1, fq454_2, fq454_3⟩ := hQ454
        have K454 : Keep h0 T454.heap [] := Keep.trans K408 Kq454 (allS (Or.inr sz_b307) all0)
        have Z454 : n0 ≤ T454.heap.size := Nat.le_trans Z408 Kq454.1
        have N454 := Fr.app N445 Nq454
        refine Goes.tr st454 ?_
        refine Goes.by (fun _ kz => XS.istore X454.here hx rfl (hb hby at_46) rfl (l' := #[iv p1, iv p2, iv 1, iv 0, rv b307, iv 0, iv 1, .unset, .unset, .unset, .unset]) rfl (XS.aload X454.here hx rfl (hb hby at_48) rfl rfl kz)) ?_
        have f456 := (f446.keep Kq454)
        obtain ⟨cq455, kq455, q455a, q455b, q455c⟩ := isOf hZ rfl f456
        obtain ⟨_, _, ⟨T455, L455, k455, n455⟩, -, X455, ⟨Lc455, hQ455, l455, y455, z455⟩, st455⟩ := X454.virtualBack hx (y := (⟨"com/example/entail/entail/model/EntrySettings", "blocks", "()Z"⟩ : MethodName)) (z := (⟨"com/example/entail/entail/model/EntrySettings", "blocks", "()Z"⟩ : MethodName)) hown (mvT hZ (hw _ (List.mem_of_getElem? (i := 88) rfl))) (mvT hZ (hw _ (List.mem_of_getElem? (i := 89) rfl))) (notFace_of_selects (args := #[]) (mvT hZ (hw _ (List.mem_of_getElem? (i := 91) rfl)))) (mvT hZ (hw _ (List.mem_of_getElem? (i := 91) rfl))) (mvT hZ (hw _ (List.mem_of_getElem? (i := 90) rfl))) (by decide) (backOf (W := 0) (r11_421 l Z a0 hw [] T454.heap n0 Z454 b307 fq454_3) hZ (hw _ (List.mem_of_getElem? (i := 92) rfl)) (hw _ (List.mem_of_getElem? (i := 2) rfl)) (by decide) (by decide)) q455a q455c (g := (mkF m 50 #[iv p1, iv p2, iv 1, iv 0, rv b307, iv 0, iv 1, .unset, .unset, .unset, .unset] [(.ref b307)])) rfl (by rw [hml]; rfl) (Steps.refl _) (argsL := []) (rest := []) (lenOf pd5 rfl) rfl (by show 2 * 0 + _ ≤ _; exact Nat.le_of_eq rfl) (hb hby at_50) (fun _ _ => ⟨rfl, rfl, (by decide : 3 + 0 ≤ _), (by decide : 10 + 0 ≤ _)⟩)
        dsimp only [Pt.U, Pt.locs, Pt.cells, Pt.slots] at X455 l455 y455 z455 st455 hQ455
        subst l455 y455 z455
        obtain ⟨rfl, Nq455, e455⟩ := hQ455
        have N455 := Fr.app N454 Nq455
        refine Goes.tr st455 ?_
        refine Goes.by (fun _ kz => XS.istore X455.here hx rfl (hb hby at_53) rfl (l' := #[iv p1, iv p2, iv 1, iv 0, rv b307, iv 0, iv 1, iv 1, .unset, .unset, .unset]) rfl (XS.aload X455.here hx rfl (hb hby at_55) rfl rfl (XS.iloadN X455.here hx rfl (hb hby at_57) rfl kz))) ?_
        obtain ⟨cq464, kq464, q464a, q464b, q464c⟩ := isOf hZ e455 f456
        obtain ⟨_, _, ⟨T464, L464, k464, n464⟩, -, X464, ⟨Lc464, hQ464, l464, y464, z464⟩, st464⟩ := X455.virtualBack hx (y := (⟨"com/example/entail/entail/model/EntrySettings", "setBlocks", "(Z)Z"⟩ : MethodName)) (z := (⟨"com/example/entail/entail/model/EntrySettings", "setBlocks", "(Z)Z"⟩ : MethodName)) hown (mvT hZ (hw _ (List.mem_of_getElem? (i := 95) rfl))) (mvT hZ (hw _ (List.mem_of_getElem? (i := 96) rfl))) (notFace_of_selects (args := #[]) (mvT hZ (hw _ (List.mem_of_getElem? (i := 98) rfl)))) (mvT hZ (hw _ (List.mem_of_getElem? (i := 98) rfl))) (mvT hZ (hw _ (List.mem_of_getElem? (i := 97) rfl))) (by decide) (backOf (W := 0) (r12_456 l Z a0 hw [] T454.heap n0 Z454 q2 b307 b311_408 b343_362_408 f456 fq454_0 fq454_1 fq454_2 fq454_3 g_b307) hZ (hw _ (List.mem_of_getElem? (i := 99) rfl)) (hw _ (List.mem_of_getElem? (i := 2) rfl)) (by decide) (by decide)) q464a q464c (g := (mkF m 58 #[iv p1, iv p2, iv 1, iv 0, rv b307, iv 0, iv 1, iv 1, .unset, .unset, .unset] [(.int 0), (.ref b307)])) rfl (by rw [hml]; rfl) (Steps.refl _) (argsL := [(.int 0)]) (rest := []) (lenOf pd6 rfl) rfl (by show 2 * 0 + _ ≤ _; exact Nat.le_of_eq rfl) (hb hby at_58) (fun _ _ => ⟨rfl, e455, (by decide : 3 + 0 ≤ _), (by decide : 10 + 0 ≤ _)⟩)
        dsimp only [Pt.U, Pt.locs, Pt.cells, Pt.slots] at X464 l464 y464 z464 st464 hQ464
        subst l464 y464 z464
        obtain ⟨rfl, Nq464, Kq464, fq464_0, fq464_1, fq464_2, fq464_3⟩ := hQ464
        have K464 : Keep h0 T464.heap [] := Keep.trans K454 Kq464 (allS (Or.inr sz_b307) all0)
        have Z464 : n0 ≤ T464.heap.size := Nat.le_trans Z454 Kq464.1
        have N464 := Fr.app N455 Nq464
        refine Goes.tr st464 ?_
        refine Goes.by (fun _ kz => XS.istore X464.here hx rfl (hb hby at_61) rfl (l' := #[iv p1, iv p2, iv 1, iv 0, rv b307, iv 0, iv 1, iv 1, iv 1, .unset, .unset]) rfl (XS.aload X464.here hx rfl (hb hby at_63) rfl rfl kz)) ?_
        have f466 := (f456.keep Kq464)
        obtain ⟨cq465, kq465, q465a, q465b, q465c⟩ := isOf hZ rfl f466
        obtain ⟨_, _, ⟨T465, L465, k465, n465⟩, -, X465, ⟨Lc465, hQ465, l465, y465, z465⟩, st465⟩ := X464.virtualBack hx (y := (⟨"com/example/entail/entail/model/EntrySettings", "blocks", "()Z"⟩ : MethodName)) (z := (⟨"com/example/entail/entail/model/EntrySettings", "blocks", "()Z"⟩ : MethodName)) hown (mvT hZ (hw _ (List.mem_of_getElem? (i := 88) rfl))) (mvT hZ (hw _ (List.mem_of_getElem? (i := 89) rfl))) (notFace_of_selects (args := #[]) (mvT hZ (hw _ (List.mem_of_getElem? (i := 91) rfl)))) (mvT hZ (hw _ (List.mem_of_getElem? (i := 91) rfl))) (mvT hZ (hw _ (List.mem_of_getElem? (i := 90) rfl))) (by decide) (backOf (W := 0) (r11_408 l Z a0 hw [] T464.heap n0 Z464 b307 fq464_3) hZ (hw _ (List.mem_of_getElem? (i := 92) rfl)) (hw _ (List.mem_of_getElem? (i := 2) rfl)) (by decide) (by decide)) q465a q465c (g := (mkF m 65 #[iv p1, iv p2, iv 1, iv 0, rv b307, iv 0, iv 1, iv 1, iv 1, .unset, .unset] [(.ref b307)])) rfl (by rw [hml]; rfl) (Steps.refl _) (argsL := []) (rest := []) (lenOf pd5 rfl) rfl (by show 2 * 0 + _ ≤ _; exact Nat.le_of_eq rfl) (hb hby at_65) (fun _ _ => ⟨rfl, rfl, (by decide : 3 + 0 ≤ _), (by decide : 10 + 0 ≤ _)⟩)
        dsimp only [Pt.U, Pt.locs, Pt.cells, Pt.slots] at X465 l465 y465 z465 st465 hQ465
        subst l465 y465 z465
        obtain ⟨rfl, Nq465, e465⟩ := hQ465
        have N465 := Fr.app N464 Nq465
        refine Goes.tr st465 ?_
        refine Goes.by (fun _ kz => XS.istore X465.here hx rfl (hb hby at_68) rfl (l' := #[iv p1, iv p2, iv 1, iv 0, rv b307, iv 0, iv 1, iv 1, iv 1, iv 0, .unset]) rfl (XS.iload X465.here hx rfl (hb hby at_70) rfl (XS.ifNo X465.here hx rfl (hb hby at_72) rfl ((if0 _ _).trans (teq (by decide : (0 : Int32) = (0 : Int32))).2) kz))) ?_
        show Goes p e below (T465.setTop (mkF m 75 #[iv p1, iv p2, iv 1, iv 0, rv b307, iv 0, iv 1, iv 1, iv 1, iv 0, .unset] [])) _
        refine Goes.by (fun _ kz => XS.iconst X465.here hx rfl (hb hby at_75) (XS.goto X465.here hx rfl (pc0 := 76) (pc' := 80) rfl (hb hby at_76) (by decide) (by decide) (XS.istore X465.here hx rfl (hb hby at_80) rfl (l' := #[iv p1, iv p2, iv 1, iv 0, rv b307, iv 0, iv 1, iv 1, iv 1, iv 0, iv 1]) rfl kz))) ?_
        show Goes p e below (T465.setTop (mkF m 82 #[iv p1, iv p2, iv 1, iv 0, rv b307, iv 0, iv 1, iv 1, iv 1, iv 0, iv 1] [])) _
        refine Goes.by (fun _ kz => XS.iload X465.here hx rfl (hb hby at_82) rfl (XS.ifNo X465.here hx rfl (hb hby at_84) rfl ((if0 _ _).trans (feq (by decide : ¬ ((1 : Int32) = (0 : Int32)))).1) (XS.iload X465.here hx rfl (hb hby at_87) rfl kz))) ?_
        show Goes p e below (T465.setTop (mkF m 89 #[iv p1, iv p2, iv 1, iv 0, rv b307, iv 0, iv 1, iv 1, iv 1, iv 0, iv 1] [(.int 1)])) _
        refine Goes.by (fun _ kz => XS.iloadN X465.here hx rfl (hb hby at_89) rfl (XS.icmpNo X465.here hx rfl (hb hby at_90) rfl (teq (by decide : (1 : Int32) = (1 : Int32))).2 (XS.iconst X465.here hx rfl (hb hby at_93) kz))) ?_
        show Goes p e below (T465.setTop (mkF m 94 #[iv p1, iv p2, iv 1, iv 0, rv b307, iv 0, iv 1, iv 1, iv 1, iv 0, iv 1] [(.int 1)])) _
        refine Goes.by (fun _ kz => XS.goto X465.here hx rfl (pc0 := 94) (pc' := 98) rfl (hb hby at_94) (by decide) (by decide) (XS.istore X465.here hx rfl (hb hby at_98) rfl (l' := #[iv p1, iv p2, iv 1, iv 0, rv b307, iv 0, iv 1, iv 1, iv 1, iv 0, iv 1]) rfl (XS.iload X465.here hx rfl (hb hby at_100) rfl kz))) ?_
        show Goes p e below (T465.setTop (mkF m 102 #[iv p1, iv p2, iv 1, iv 0, rv b307, iv 0, iv 1, iv 1, iv 1, iv 0, iv 1] [(.int 1)])) _
        refine Goes.by (fun _ kz => XS.ifNo X465.here hx rfl (hb hby at_102) rfl ((if0 _ _).trans (feq (by decide : ¬ ((1 : Int32) = (0 : Int32)))).1) (XS.iload X465.here hx rfl (hb hby at_105) rfl (XS.iloadN X465.here hx rfl (hb hby at_107) rfl kz))) ?_
        show Goes p e below (T465.setTop (mkF m 108 #[iv p1, iv p2, iv 1, iv 0, rv b307, iv 0, iv 1, iv 1, iv 1, iv 0, iv 1] [(.int 1), (.int 1)])) _
        refine Goes.by (fun _ kz => XS.icmpNo X465.here hx rfl (hb hby at_108) rfl (teq (by decide : (1 : Int32) = (1 : Int32))).2 (XS.iconst X465.here hx rfl (hb hby at_111) (XS.goto X465.here hx rfl (pc0 := 112) (pc' := 116) rfl (hb hby at_112) (by decide) (by decide) kz))) ?_
        show Goes p e below (T465.setTop (mkF m 116 #[iv p1, iv p2, iv 1, iv 0, rv b307, iv 0, iv 1, iv 1, iv 1, iv 0, iv 1] [(.int 1)])) _
        refine Goes.by (fun _ kz => XS.istore X465.here hx rfl (hb hby at_116) rfl (l' := #[iv p1, iv p2, iv 1, iv 0, rv b307, iv 0, iv 1, iv 1, iv 1, iv 0, iv 1]) rfl (XS.iload X465.here hx rfl (hb hby at_118) rfl (XS.ifNo X465.here hx rfl (hb hby at_120) rfl ((if0 _ _).trans (feq (by decide : ¬ ((1 : Int32) = (0 : Int32)))).1) kz))) ?_
        show Goes p e below (T465.setTop (mkF m 123 #[iv p1, iv p2, iv 1, iv 0, rv b307, iv 0, iv 1, iv 1, iv 1, iv 0, iv 1] [])) _
        refine Goes.by (fun _ kz => XS.iload X465.here hx rfl (hb hby at_123) rfl (XS.iloadN X465.here hx rfl (hb hby at_125) rfl (XS.iloadN X465.here hx rfl (hb hby at_126) rfl kz))) ?_
        show Goes p e below (T465.setTop (mkF m 127 #[iv p1, iv p2, iv 1, iv 0, rv b307, iv 0, iv 1, iv 1, iv 1, iv 0, iv 1] [(.int 0), (.int 1), (.int 1)])) _
        refine Goes.by (fun _ kz => XS.icmpNo X465.here hx rfl (hb hby at_127) rfl (feq (by decide : ¬ ((1 : Int32) = (0 : Int32)))).1 (XS.iconst X465.here hx rfl (hb hby at_130) (XS.goto X465.here hx rfl (pc0 := 131) (pc' := 135) rfl (hb hby at_131) (by decide) (by decide) kz))) ?_
        show Goes p e below (T465.setTop (mkF m 135 #[iv p1, iv p2, iv 1, iv 0, rv b307, iv 0, iv 1, iv 1, iv 1, iv 0, iv 1] [(.int 1), (.int 1)])) _
        refine Goes.by (fun _ kz => XS.icmpNo X465.here hx rfl (hb hby at_135) rfl (teq (by decide : (1 : Int32) = (1 : Int32))).2 (XS.iconst X465.here hx rfl (hb hby at_138) (XS.goto X465.here hx rfl (pc0 := 139) (pc' := 143) rfl (hb hby at_139) (by decide) (by decide) kz))) ?_
        show Goes p e below (T465.setTop (mkF m 143 #[iv p1, iv p2, iv 1, iv 0, rv b307, iv 0, iv 1, iv 1, iv 1, iv 0, iv 1] [(.int 1)])) _
        refine Goes.by (fun _ kz => XS.istore X465.here hx rfl (hb hby at_143) rfl (l' := #[iv p1, iv p2, iv 1, iv 0, rv b307, iv 0, iv 1, iv 1, iv 1, iv 0, iv 1]) rfl (XS.iload X465.here hx rfl (hb hby at_145) rfl (XS.ifNo X465.here hx rfl (hb hby at_147) rfl ((if0 _ _).trans (feq (by decide : ¬ ((1 : Int32) = (0 : Int32)))).1) kz))) ?_
        show Goes p e below (T465.setTop (mkF m 150 #[iv p1, iv p2, iv 1, iv 0, rv b307, iv 0, iv 1, iv 1, iv 1, iv 0, iv 1] [])) _
        refine Goes.by (fun _ kz => XS.iload X465.here hx rfl (hb hby at_150) rfl (XS.iloadN X465.here hx rfl (hb hby at_152) rfl (XS.icmpNo X465.here hx rfl (hb hby at_153) rfl (teq (by decide : (0 : Int32) = (0 : Int32))).2 kz))) ?_
        show Goes p e below (T465.setTop (mkF m 156 #[iv p1, iv p2, iv 1, iv 0, rv b307, iv 0, iv 1, iv 1, iv 1, iv 0, iv 1] [])) _
        refine Goes.by (fun _ kz => XS.iconst X465.here hx rfl (hb hby at_156) (XS.goto X465.here hx rfl (pc0 := 157) (pc' := 161) rfl (hb hby at_157) (by decide) (by decide) (XS.istore X465.here hx rfl (hb hby at_161) rfl (l' := #[iv p1, iv p2, iv 1, iv 0, rv b307, iv 0, iv 1, iv 1, iv 1, iv 0, iv 1]) rfl kz))) ?_
        show Goes p e below (T465.setTop (mkF m 163 #[iv p1, iv p2, iv 1, iv 0, rv b307, iv 0, iv 1, iv 1, iv 1, iv 0, iv 1] [])) _
        refine Goes.by (fun _ kz => XS.iload X465.here hx rfl (hb hby at_163) rfl kz) ?_
        show Goes p e below (T465.setTop (mkF m 165 #[iv p1, iv p2, iv 1, iv 0, rv b307, iv 0, iv 1, iv 1, iv 1, iv 0, iv 1] [(.int 1)])) _
        obtain ⟨fs, hr, hrun, hended, hW, hsame⟩ := X465.leave (v := some (.int 1)) (fun h => by rw [Bd.returns] at h; cases h)
        exact ⟨_, _, retN X465 hx (t := .boolean) Bd.returns (by simp) (hb hby at_165) hr, hrun, hended, _, _, rfl, ⟨rfl, N465⟩, ⟨_, rfl⟩, hW, hsame.mono (by decide) (by decide)⟩
    · rw [hqp2]
      show Goes p e below (s₁.setTop (mkF m 15 #[iv p1, iv p2, iv 1, .unset, .unset, .unset, .unset, .unset, .unset, .unset, .unset] [(.int 1)])) _
      refine Goes.by (fun _ kz => XS.ifNo X0.here hx rfl (hb hby at_15) rfl ((if0 _ _).trans (feq (by decide : ¬ ((1 : Int32) = (0 : Int32)))).1) (XS.iconst X0.here hx rfl (hb hby at_18) (XS.goto X0.here hx rfl (pc0 := 19) (pc' := 23) rfl (hb hby at_19) (by decide) (by decide) kz))) ?_
      show Goes p e below (s₁.setTop (mkF m 23 #[iv p1, iv p2, iv 1, .unset, .unset, .unset, .unset, .unset, .unset, .unset, .unset] [(.int 1)])) _
      refine Goes.by (fun _ kz => XS.istoreN X0.here hx rfl (hb hby at_23) rfl (l' := #[iv p1, iv p2, iv 1, iv 1, .unset, .unset, .unset, .unset, .unset, .unset, .unset]) rfl kz) ?_
      obtain ⟨T467, h467, X467, e467, E467, A467, D467, -, st467⟩ := newO X0 hx hZ hown (hw _ (List.mem_of_getElem? (i := 0) rfl)) (hw _ (List.mem_of_getElem? (i := 1) rfl)) (hw _ (List.mem_of_getElem? (i := 2) rfl)) e0 (g := (mkF m 24 #[iv p1, iv p2, iv 1, iv 1, .unset, .unset, .unset, .unset, .unset, .unset, .unset] [])) rfl (hb hby at_24) (by decide) (by decide)
      obtain ⟨b467, g467⟩ : ∃ z, z = h0.size := ⟨_, rfl⟩
      rw [← g467] at A467 D467 st467
      have g_b467 : n0 ≤ b467 := Nat.le_trans Z0 (Nat.le_of_eq g467.symm)
      have sz_b467 : h0.size ≤ b467 := Nat.le_of_eq g467.symm
      have F467_rules : Fld Z h467 b467 "com/example/entail/entail/model/EntrySettings" "rules" "Ljava/util/List;" .null := D467 (Or.inr (hw _ (List.mem_of_getElem? (i := 34) rfl))) (ty := (.object "java/util/List")) (by decide)
      have F467_rulesView : Fld Z h467 b467 "com/example/entail/entail/model/EntrySettings" "rulesView" "Ljava/util/List;" .null := D467 (Or.inr (hw _ (List.mem_of_getElem? (i := 79) rfl))) (ty := (.object "java/util/List")) (by decide)
      have F467_blockedTrusteesView : Fld Z h467 b467 "com/example/entail/entail/model/EntrySettings" "blockedTrusteesView" "Ljava/util/Set;" .null := D467 (Or.inl (hw _ (List.mem_of_getElem? (i := 87) rfl))) (ty := (.object "java/util/Set")) (by decide)
      have F467_blocks : Fld Z h467 b467 "com/example/entail/entail/model/EntrySettings" "blocks" "Z" (.int 0) := D467 (Or.inl (hw _ (List.mem_of_getElem? (i := 94) rfl))) (ty := .boolean) (by decide)
      have K467 : Keep h0 h467 [] := Keep.ext (Keep.refl h0 []) E467
      have Z467 : n0 ≤ h467.size := Nat.le_trans Z0 E467.1
      refine Goes.by st467 ?_
      refine Goes.by (fun _ kz => XS.dup X467.here hx rfl (hb hby at_27) rfl rfl kz) ?_
      have f566 := (S1.ext E467)
      have f567 := (S2.ext E467)
      obtain ⟨_, _, ⟨T568, L568, k568, n568⟩, -, X568, ⟨Lc568, hQ568, l568, y568, z568⟩, st568⟩ := X467.specialBack hx (y := (⟨"com/example/entail/entail/model/EntrySettings", "<init>", "()V"⟩ : MethodName)) rfl hown (mvT hZ (hw _ (List.mem_of_getElem? (i := 3) rfl))) (mvT hZ (hw _ (List.mem_of_getElem? (i := 4) rfl))) (mvT hZ (hw _ (List.mem_of_getElem? (i := 5) rfl))) (by decide) (backOf (W := 1) (r1_467 l Z a0 hw [] h467 n0 Z467 mA mL mR q1 q2 b467 f566 f567 A467 F467_rules F467_rulesView F467_blockedTrusteesView F467_blocks MA ML MR g_b467) hZ (hw _ (List.mem_of_getElem? (i := 5) rfl)) (hw _ (List.mem_of_getElem? (i := 2) rfl)) (by decide) (by decide)) (g := (mkF m 28 #[iv p1, iv p2, iv 1, iv 1, .unset, .unset, .unset, .unset, .unset, .unset, .unset] [(.ref b467), (.ref b467)])) rfl (by rw [hml]; rfl) (Steps.refl _) (a := b467) (argsL := []) (rest := [(.ref b467)]) (lenOf pd0 rfl) rfl (by show 2 * 0 + _ ≤ _; exact Nat.le_of_eq rfl) (hb hby at_28) (fun _ _ => ⟨rfl, e467, (by decide : 1 + 2 ≤ _), (by decide : 5 + 5 ≤ _)⟩)
      dsimp only [Pt.U, Pt.locs, Pt.cells, Pt.slots] at X568 l568 y568 z568 st568 hQ568
      subst l568 y568 z568
      rcases hQ568 with hQ568 | hQ568 | hQ568
      · obtain ⟨b471_568, rfl, Nq568, Kq568, sq568_b471, fq568_0, fq568_1, fq568_2, fq568_3, fq568_4, fq568_5, fq568_6, hc568_522_498⟩ := hQ568
        have K568 : Keep h0 T568.heap [] := Keep.trans K467 Kq568 (allS (Or.inr sz_b467) all0)
        have Z568 : n0 ≤ T568.heap.size := Nat.le_trans Z467 Kq568.1
        have ne568_b471_b467 : b467 ≠ b471_568 := Nat.ne_of_lt (Nat.lt_of_lt_of_le A467.lt sq568_b471)
        have g_b471_568 : n0 ≤ b471_568 := Nat.le_trans Z467 sq568_b471
        have sz_b471_568 : h0.size ≤ b471_568 := Nat.le_trans K467.1 sq568_b471
        have N568 := Fr.app N0 Nq568
        refine Goes.tr st568 ?_
        refine Goes.by (fun _ kz => XS.astore X568.here hx rfl (hb hby at_31) rfl rfl (l' := #[iv p1, iv p2, iv 1, iv 1, rv b467, .unset, .unset, .unset, .unset, .unset, .unset]) rfl (XS.aload X568.here hx rfl (hb hby at_33) rfl rfl kz)) ?_
        have f573 := (A467.keep Kq568)
        obtain ⟨cq572, kq572, q572a, q572b, q572c⟩ := isOf hZ rfl f573
        obtain ⟨_, _, ⟨T572, L572, k572, n572⟩, -, X572, ⟨Lc572, hQ572, l572, y572, z572⟩, st572⟩ := X568.virtualBack hx (y := (⟨"com/example/entail/entail/model/EntrySettings", "blocks", "()Z"⟩ : MethodName)) (z := (⟨"com/example/entail/entail/model/EntrySettings", "blocks", "()Z"⟩ : MethodName)) hown (mvT hZ (hw _ (List.mem_of_getElem? (i := 88) rfl))) (mvT hZ (hw _ (List.mem_of_getElem? (i := 89) rfl))) (notFace_of_selects (args := #[]) (mvT hZ (hw _ (List.mem_of_getElem? (i := 91) rfl)))) (mvT hZ (hw _ (List.mem_of_getElem? (i := 91) rfl))) (mvT hZ (hw _ (List.mem_of_getElem? (i := 90) rfl))) (by decide) (backOf (W := 0) (r11_568 l Z a0 hw [] T568.heap n0 Z568 b467 fq568_3) hZ (hw _ (List.mem_of_getElem? (i := 92) rfl)) (hw _ (List.mem_of_getElem? (i := 2) rfl)) (by decide) (by decide)) q572a q572c (g := (mkF m 35 #[iv p1, iv p2, iv 1, iv 1, rv b467, .unset, .unset, .unset, .unset, .unset, .unset] [(.ref b467)])) rfl (by rw [hml]; rfl) (Steps.refl _) (argsL := []) (rest := []) (lenOf pd5 rfl) rfl (by show 2 * 0 + _ ≤ _; exact Nat.le_of_eq rfl) (hb hby at_35) (fun _ _ => ⟨rfl, rfl, (by decide : 3 + 0 ≤ _), (by decide : 10 + 0 ≤ _)⟩)
        dsimp only [Pt.U, Pt.locs, Pt.cells, Pt.slots] at X572 l572 y572 z572 st572 hQ572
        subst l572 y572 z572
        obtain ⟨rfl, Nq572, e572⟩ := hQ572
        have N572 := Fr.app N568 Nq572
        refine Goes.tr st572 ?_
        refine Goes.by (fun _ kz => XS.istore X572.here hx rfl (hb hby at_38) rfl (l' := #[iv p1, iv p2, iv 1, iv 1, rv b467, iv 0, .unset, .unset, .unset, .unset, .unset]) rfl (XS.aload X572.here hx rfl (hb hby at_40) rfl rfl (XS.iloadN X572.here hx rfl (hb hby at_42) rfl kz))) ?_
        obtain ⟨cq581, kq581, q581a, q581b, q581c⟩ := isOf hZ e572 f573
        obtain ⟨_, _, ⟨T581, L581, k581, n581⟩, -, X581, ⟨Lc581, hQ581, l581, y581, z581⟩, st581⟩ := X572.virtualBack hx (y := (⟨"com/example/entail/entail/model/EntrySettings", "setBlocks", "(Z)Z"⟩ : MethodName)) (z := (⟨"com/example/entail/entail/model/EntrySettings", "setBlocks", "(Z)Z"⟩ : MethodName)) hown (mvT hZ (hw _ (List.mem_of_getElem? (i := 95) rfl))) (mvT hZ (hw _ (List.mem_of_getElem? (i := 96) rfl))) (notFace_of_selects (args := #[]) (mvT hZ (hw _ (List.mem_of_getElem? (i := 98) rfl)))) (mvT hZ (hw _ (List.mem_of_getElem? (i := 98) rfl))) (mvT hZ (hw _ (List.mem_of_getElem? (i := 97) rfl))) (by decide) (backOf (W := 0) (r12_573 l Z a0 hw [] T568.heap n0 Z568 q2 b467 b471_568 f573 fq568_0 fq568_1 fq568_2 fq568_3 g_b467) hZ (hw _ (List.mem_of_getElem? (i := 99) rfl)) (hw _ (List.mem_of_getElem? (i := 2) rfl)) (by decide) (by decide)) q581a q581c (g := (mkF m 43 #[iv p1, iv p2, iv 1, iv 1, rv b467, iv 0, .unset, .unset, .unset, .unset, .unset] [(.int 1), (.ref b467)])) rfl (by rw [hml]; rfl) (Steps.refl _) (argsL := [(.int 1)]) (rest := []) (lenOf pd6 rfl) rfl (by show 2 * 0 + _ ≤ _; exact Nat.le_of_eq rfl) (hb hby at_43) (fun _ _ => ⟨rfl, e572, (by decide : 3 + 0 ≤ _), (by decide : 10 + 0 ≤ _)⟩)
        dsimp only [Pt.U, Pt.locs, Pt.cells, Pt.slots] at X581 l581 y581 z581 st581 hQ581
        subst l581 y581 z581
        obtain ⟨rfl, Nq581, Kq581, fq581_0, fq581_1, fq581_2, fq581_3⟩ := hQ581
        have K581 : Keep h0 T581.heap [] := Keep.trans K568 Kq581 (allS (Or.inr sz_b467) all0)
        have Z581 : n0 ≤ T581.heap.size := Nat.le_trans Z568 Kq581.1
        have N581 := Fr.app N572 Nq581
        refine Goes.tr st581 ?_
        refine Goes.by (fun _ kz => XS.istore X581.here hx rfl (hb hby at_46) rfl (l' := #[iv p1, iv p2, iv 1, iv 1, rv b467, iv 0, iv 1, .unset, .unset, .unset, .unset]) rfl (XS.aload X581.here hx rfl (hb hby at_48) rfl rfl kz)) ?_
        have f586 := (f573.keep Kq581)
        obtain ⟨cq585, kq585, q585a, q585b, q585c⟩ := isOf hZ rfl f586
        obtain ⟨_, _, ⟨T585, L585, k585, n585⟩, -, X585, ⟨Lc585, hQ585, l585, y585, z585⟩, st585⟩ := X581.virtualBack hx (y := (⟨"com/example/entail/entail/model/EntrySettings", "blocks", "()Z"⟩ : MethodName)) (z := (⟨"com/example/entail/entail/model/EntrySettings", "blocks", "()Z"⟩ : MethodName)) hown (mvT hZ (hw _ (List.mem_of_getElem? (i := 88) rfl))) (mvT hZ (hw _ (List.mem_of_getElem? (i := 89) rfl))) (notFace_of_selects (args := #[]) (mvT hZ (hw _ (List.mem_of_getElem? (i := 91) rfl)))) (mvT hZ (hw _ (List.mem_of_getElem? (i := 91) rfl))) (mvT hZ (hw _ (List.mem_of_getElem? (i := 90) rfl))) (by decide) (backOf (W := 0) (r11_581 l Z a0 hw [] T581.heap n0 Z581 b467 fq581_3) hZ (hw _ (List.mem_of_getElem? (i := 92) rfl)) (hw _ (List.mem_of_getElem? (i := 2) rfl)) (by decide) (by decide)) q585a q585c (g := (mkF m 50 #[iv p1, iv p2, iv 1, iv 1, rv b467, iv 0, iv 1, .unset, .unset, .unset, .unset] [(.ref b467)])) rfl (by rw [hml]; rfl) (Steps.refl _) (argsL := []) (rest := []) (lenOf pd5 rfl) rfl (by show 2 * 0 + _ ≤ _; exact Nat.le_of_eq rfl) (hb hby at_50) (fun _ _ => ⟨rfl, rfl, (by decide : 3 + 0 ≤ _), (by decide : 10 + 0 ≤ _)⟩)
        dsimp only [Pt.U, Pt.locs, Pt.cells, Pt.slots] at X585 l585 y585 z585 st585 hQ585
        subst l585 y585 z585
        obtain ⟨rfl, Nq585, e585⟩ := hQ585
        have N585 := Fr.app N581 Nq585
        refine Goes.tr st585 ?_
        refine Goes.by (fun _ kz => XS.istore X585.here hx rfl (hb hby at_53) rfl (l' := #[iv p1, iv p2, iv 1, iv 1, rv b467, iv 0, iv 1, iv 1, .unset, .unset, .unset]) rfl (XS.aload X585.here hx rfl (hb hby at_55) rfl rfl (XS.iloadN X585.here hx rfl (hb hby at_57) rfl kz))) ?_
        obtain ⟨cq594, kq594, q594a, q594b, q594c⟩ := isOf hZ e585 f586
        obtain ⟨_, _, ⟨T594, L594, k594, n594⟩, -, X594, ⟨Lc594, hQ594, l594, y594, z594⟩, st594⟩ := X585.virtualBack hx (y := (⟨"com/example/entail/entail/model/EntrySettings", "setBlocks", "(Z)Z"⟩ : MethodName)) (z := (⟨"com/example/entail/entail/model/EntrySettings", "setBlocks", "(Z)Z"⟩ : MethodName)) hown (mvT hZ (hw _ (List.mem_of_getElem? (i := 95) rfl))) (mvT hZ (hw _ (List.mem_of_getElem? (i := 96) rfl))) (notFace_of_selects (args := #[]) (mvT hZ (hw _ (List.mem_of_getElem? (i := 98) rfl)))) (mvT hZ (hw _ (List.mem_of_getElem? (i := 98) rfl))) (mvT hZ (hw _ (List.mem_of_getElem? (i := 97) rfl))) (by decide) (backOf (W := 0) (r12_586 l Z a0 hw [] T581.heap n0 Z581 q2 b467 b471_568 f586 fq581_0 fq581_1 fq581_2 fq581_3 g_b467) hZ (hw _ (List.mem_of_getElem? (i := 99) rfl)) (hw _ (List.mem_of_getElem? (i := 2) rfl)) (by decide) (by decide)) q594a q594c (g := (mkF m 58 #[iv p1, iv p2, iv 1, iv 1, rv b467, iv 0, iv 1, iv 1, .unset, .unset, .unset] [(.int 1), (.ref b467)])) rfl (by rw [hml]; rfl) (Steps.refl _) (argsL := [(.int 1)]) (rest := []) (lenOf pd6 rfl) rfl (by show 2 * 0 + _ ≤ _; exact Nat.le_of_eq rfl) (hb hby at_58) (fun _ _ => ⟨rfl, e585, (by decide : 3 + 0 ≤ _), (by decide : 10 + 0 ≤ _)⟩)
        dsimp only [Pt.U, Pt.locs, Pt.cells, Pt.slots] at X594 l594 y594 z594 st594 hQ594
        subst l594 y594 z594
        obtain ⟨rfl, Nq594, Kq594, fq594_0, fq594_1, fq594_2, fq594_3⟩ := hQ594
        have K594 : Keep h0 T594.heap [] := Keep.trans K581 Kq594 (allS (Or.inr sz_b467) all0)
        have Z594 : n0 ≤ T594.heap.size := Nat.le_trans Z581 Kq594.1
        have N594 := Fr.app N585 Nq594
        refine Goes.tr st594 ?_
        refine Goes.by (fun _ kz => XS.istore X594.here hx rfl (hb hby at_61) rfl (l' := #[iv p1, iv p2, iv 1, iv 1, rv b467, iv 0, iv 1, iv 1, iv 0, .unset, .unset]) rfl (XS.aload X594.here hx rfl (hb hby at_63) rfl rfl kz)) ?_
        have f596 := (f586.keep Kq594)
        obtain ⟨cq595, kq595, q595a, q595b, q595c⟩ := isOf hZ rfl f596
        obtain ⟨_, _, ⟨T595, L595, k595, n595⟩, -, X595, ⟨Lc595, hQ595, l595, y595, z595⟩, st595⟩ := X594.virtualBack hx (y := (⟨"com/example/entail/entail/model/EntrySettings", "blocks", "()Z"⟩ : MethodName)) (z := (⟨"com/example/entail/entail/model/EntrySettings", "blocks", "()Z"⟩ : MethodName)) hown (mvT hZ (hw _ (List.mem_of_getElem? (i := 88) rfl))) (mvT hZ (hw _ (List.mem_of_getElem? (i := 89) rfl))) (notFace_of_selects (args := #[]) (mvT hZ (hw _ (List.mem_of_getElem? (i := 91) rfl)))) (mvT hZ (hw _ (List.mem_of_getElem? (i := 91) rfl))) (mvT hZ (hw _ (List.mem_of_getElem? (i := 90) rfl))) (by decide) (backOf (W := 0) (r11_581 l Z a0 hw [] T594.heap n0 Z594 b467 fq594_3) hZ (hw _ (List.mem_of_getElem? (i := 92) rfl)) (hw _ (List.mem_of_getElem? (i := 2) rfl)) (by decide) (by decide)) q595a q595c (g := (mkF m 65 #[iv p1, iv p2, iv 1, iv 1, rv b467, iv 0, iv 1, iv 1, iv 0, .unset, .unset] [(.ref b467)])) rfl (by rw [hml]; rfl) (Steps.refl _) (argsL := []) (rest := []) (lenOf pd5 rfl) rfl (by show 2 * 0 + _ ≤ _; exact Nat.le_of_eq rfl) (hb hby at_65) (fun _ _ => ⟨rfl, rfl, (by decide : 3 + 0 ≤ _), (by decide : 10 + 0 ≤ _)⟩)
        dsimp only [Pt.U, Pt.locs, Pt.cells, Pt.slots] at X595 l595 y595 z595 st595 hQ595
        subst l595 y595 z595
        obtain ⟨rfl, Nq595, e595⟩ := hQ595
        have N595 := Fr.app N594 Nq595
        refine Goes.tr st595 ?_
        refine Goes.by (fun _ kz => XS.istore X595.here hx rfl (hb hby at_68) rfl (l' := #[iv p1, iv p2, iv 1, iv 1, rv b467, iv 0, iv 1, iv 1, iv 0, iv 1, .unset]) rfl (XS.iload X595.here hx rfl (hb hby at_70) rfl (XS.ifNo X595.here hx rfl (hb hby at_72) rfl ((if0 _ _).trans (teq (by decide : (0 : Int32) = (0 : Int32))).2) kz))) ?_
        show Goes p e below (T595.setTop (mkF m 75 #[iv p1, iv p2, iv 1, iv 1, rv b467, iv 0, iv 1, iv 1, iv 0, iv 1, .unset] [])) _
        refine Goes.by (fun _ kz => XS.iconst X595.here hx rfl (hb hby at_75) (XS.goto X595.here hx rfl (pc0 := 76) (pc' := 80) rfl (hb hby at_76) (by decide) (by decide) (XS.istore X595.here hx rfl (hb hby at_80) rfl (l' := #[iv p1, iv p2, iv 1, iv 1, rv b467, iv 0, iv 1, iv 1, iv 0, iv 1, iv 1]) rfl kz))) ?_
        show Goes p e below (T595.setTop (mkF m 82 #[iv p1, iv p2, iv 1, iv 1, rv b467, iv 0, iv 1, iv 1, iv 0, iv 1, iv 1] [])) _
        refine Goes.by (fun _ kz => XS.iload X595.here hx rfl (hb hby at_82) rfl (XS.ifNo X595.here hx rfl (hb hby at_84) rfl ((if0 _ _).trans (feq (by decide : ¬ ((1 : Int32) = (0 : Int32)))).1) (XS.iload X595.here hx rfl (hb hby at_87) rfl kz))) ?_
        show Goes p e below (T595.setTop (mkF m 89 #[iv p1, iv p2, iv 1, iv 1, rv b467, iv 0, iv 1, iv 1, iv 0, iv 1, iv 1] [(.int 1)])) _
        refine Goes.by (fun _ kz => XS.iloadN X595.here hx rfl (hb hby at_89) rfl (XS.icmpNo X595.here hx rfl (hb hby at_90) rfl (teq (by decide : (1 : Int32) = (1 : Int32))).2 (XS.iconst X595.here hx rfl (hb hby at_93) kz))) ?_
        show Goes p e below (T595.setTop (mkF m 94 #[iv p1, iv p2, iv 1, iv 1, rv b467, iv 0, iv 1, iv 1, iv 0, iv 1, iv 1] [(.int 1)])) _
        refine Goes.by (fun _ kz => XS.goto X595.here hx rfl (pc0 := 94) (pc' := 98) rfl (hb hby at_94) (by decide) (by decide) (XS.istore X595.here hx rfl (hb hby at_98) rfl (l' := #[iv p1, iv p2, iv 1, iv 1, rv b467, iv 0, iv 1, iv 1, iv 0, iv 1, iv 1]) rfl (XS.iload X595.here hx rfl (hb hby at_100) rfl kz))) ?_
        show Goes p e below (T595.setTop (mkF m 102 #[iv p1, iv p2, iv 1, iv 1, rv b467, iv 0, iv 1, iv 1, iv 0, iv 1, iv 1] [(.int 1)])) _
        refine Goes.by (fun _ kz => XS.ifNo X595.here hx rfl (hb hby at_102) rfl ((if0 _ _).trans (feq (by decide : ¬ ((1 : Int32) = (0 : Int32)))).1) (XS.iload X595.here hx rfl (hb hby at_105) rfl (XS.iloadN X595.here hx rfl (hb hby at_107) rfl kz))) ?_
        show Goes p e below (T595.setTop (mkF m 108 #[iv p1, iv p2, iv 1, iv 1, rv b467, iv 0, iv 1, iv 1, iv 0, iv 1, iv 1] [(.int 1), (.int 1)])) _
        refine Goes.by (fun _ kz => XS.icmpNo X595.here hx rfl (hb hby at_108) rfl (teq (by decide : (1 : Int32) = (1 : Int32))).2 (XS.iconst X595.here hx rfl (hb hby at_111) (XS.goto X595.here hx rfl (pc0 := 112) (pc' := 116) rfl (hb hby at_112) (by decide) (by decide) kz))) ?_
        show Goes p e below (T595.setTop (mkF m 116 #[iv p1, iv p2, iv 1, iv 1, rv b467, iv 0, iv 1, iv 1, iv 0, iv 1, iv 1] [(.int 1)])) _
        refine Goes.by (fun _ kz => XS.istore X595.here hx rfl (hb hby at_116) rfl (l' := #[iv p1, iv p2, iv 1, iv 1, rv b467, iv 0, iv 1, iv 1, iv 0, iv 1, iv 1]) rfl (XS.iload X595.here hx rfl (hb hby at_118) rfl (XS.ifNo X595.here hx rfl (hb hby at_120) rfl ((if0 _ _).trans (feq (by decide : ¬ ((1 : Int32) = (0 : Int32)))).1) kz))) ?_
        show Goes p e below (T595.setTop (mkF m 123 #[iv p1, iv p2, iv 1, iv 1, rv b467, iv 0, iv 1, iv 1, iv 0, iv 1, iv 1] [])) _
        refine Goes.by (fun _ kz => XS.iload X595.here hx rfl (hb hby at_123) rfl (XS.iloadN X595.here hx rfl (hb hby at_125) rfl (XS.iloadN X595.here hx rfl (hb hby at_126) rfl kz))) ?_
        show Goes p e below (T595.setTop (mkF m 127 #[iv p1, iv p2, iv 1, iv 1, rv b467, iv 0, iv 1, iv 1, iv 0, iv 1, iv 1] [(.int 1), (.int 1), (.int 0)])) _
        refine Goes.by (fun _ kz => XS.icmpYes X595.here hx rfl (pc0 := 127) (pc' := 134) rfl (hb hby at_127) rfl (teq (by decide : (1 : Int32) = (1 : Int32))).1 (by decide) (by decide) (XS.iconst X595.here hx rfl (hb hby at_134) (XS.icmpNo X595.here hx rfl (hb hby at_135) rfl (teq (by decide : (0 : Int32) = (0 : Int32))).2 kz))) ?_
        show Goes p e below (T595.setTop (mkF m 138 #[iv p1, iv p2, iv 1, iv 1, rv b467, iv 0, iv 1, iv 1, iv 0, iv 1, iv 1] [])) _
        refine Goes.by (fun _ kz => XS.iconst X595.here hx rfl (hb hby at_138) (XS.goto X595.here hx rfl (pc0 := 139) (pc' := 143) rfl (hb hby at_139) (by decide) (by decide) (XS.istore X595.here hx rfl (hb hby at_143) rfl (l' := #[iv p1, iv p2, iv 1, iv 1, rv b467, iv 0, iv 1, iv 1, iv 0, iv 1, iv 1]) rfl kz))) ?_
        show Goes p e below (T595.setTop (mkF m 145 #[iv p1, iv p2, iv 1, iv 1, rv b467, iv 0, iv 1, iv 1, iv 0, iv 1, iv 1] [])) _
        refine Goes.by (fun _ kz => XS.iload X595.here hx rfl (hb hby at_145) rfl (XS.ifNo X595.here hx rfl (hb hby at_147) rfl ((if0 _ _).trans (feq (by decide : ¬ ((1 : Int32) = (0 : Int32)))).1) (XS.iload X595.here hx rfl (hb hby at_150) rfl kz))) ?_
        show Goes p e below (T595.setTop (mkF m 152 #[iv p1, iv p2, iv 1, iv 1, rv b467, iv 0, iv 1, iv 1, iv 0, iv 1, iv 1] [(.int 1)])) _
        refine Goes.by (fun _ kz => XS.iloadN X595.here hx rfl (hb hby at_152) rfl (XS.icmpNo X595.here hx rfl (hb hby at_153) rfl (teq (by decide : (1 : Int32) = (1 : Int32))).2 (XS.iconst X595.here hx rfl (hb hby at_156) kz))) ?_
        show Goes p e below (T595.setTop (mkF m 157 #[iv p1, iv p2, iv 1, iv 1, rv b467, iv 0, iv 1, iv 1, iv 0, iv 1, iv 1] [(.int 1)])) _
        refine Goes.by (fun _ kz => XS.goto X595.here hx rfl (pc0 := 157) (pc' := 161) rfl (hb hby at_157) (by decide) (by decide) (XS.istore X595.here hx rfl (hb hby at_161) rfl (l' := #[iv p1, iv p2, iv 1, iv 1, rv b467, iv 0, iv 1, iv 1, iv 0, iv 1, iv 1]) rfl (XS.iload X595.here hx rfl (hb hby at_163) rfl kz))) ?_
        show Goes p e below (T595.setTop (mkF m 165 #[iv p1, iv p2, iv 1, iv 1, rv b467, iv 0, iv 1, iv 1, iv 0, iv 1, iv 1] [(.int 1)])) _
        obtain ⟨fs, hr, hrun, hended, hW, hsame⟩ := X595.leave (v := some (.int 1)) (fun h => by rw [Bd.returns] at h; cases h)
        exact ⟨_, _, retN X595 hx (t := .boolean) Bd.returns (by simp) (hb hby at_165) hr, hrun, hended, _, _, rfl, ⟨rfl, N595⟩, ⟨_, rfl⟩, hW, hsame.mono (by decide) (by decide)⟩
      · obtain ⟨b471_568, rfl, Nq568, Kq568, sq568_b471, fq568_0, fq568_1, fq568_2, fq568_3, fq568_4, fq568_5, fq568_6, hc568_522_498, hc568_522_501⟩ := hQ568
        have K568 : Keep h0 T568.heap [] := Keep.trans K467 Kq568 (allS (Or.inr sz_b467) all0)
        have Z568 : n0 ≤ T568.heap.size := Nat.le_trans Z467 Kq568.1
        have ne568_b471_b467 : b467 ≠ b471_568 := Nat.ne_of_lt (Nat.lt_of_lt_of_le A467.lt sq568_b471)
        have g_b471_568 : n0 ≤ b471_568 := Nat.le_trans Z467 sq568_b471
        have sz_b471_568 : h0.size ≤ b471_568 := Nat.le_trans K467.1 sq568_b471
        have N568 := Fr.app N0 Nq568
        refine Goes.tr st568 ?_
        refine Goes.by (fun _ kz => XS.astore X568.here hx rfl (hb hby at_31) rfl rfl (l' := #[iv p1, iv p2, iv 1, iv 1, rv b467, .unset, .unset, .unset, .unset, .unset, .unset]) rfl (XS.aload X568.here hx rfl (hb hby at_33) rfl rfl kz)) ?_
        have f598 := (A467.keep Kq568)
        obtain ⟨cq597, kq597, q597a, q597b, q597c⟩ := isOf hZ rfl f598
        obtain ⟨_, _, ⟨T597, L597, k597, n597⟩, -, X597, ⟨Lc597, hQ597, l597, y597, z597⟩, st597⟩ := X568.virtualBack hx (y := (⟨"com/example/entail/entail/model/EntrySettings", "blocks", "()Z"⟩ : MethodName)) (z := (⟨"com/example/entail/entail/model/EntrySettings", "blocks", "()Z"⟩ : MethodName)) hown (mvT hZ (hw _ (List.mem_of_getElem? (i := 88) rfl))) (mvT hZ (hw _ (List.mem_of_getElem? (i := 89) rfl))) (notFace_of_selects (args := #[]) (mvT hZ (hw _ (List.mem_of_getElem? (i := 91) rfl)))) (mvT hZ (hw _ (List.mem_of_getElem? (i := 91) rfl))) (mvT hZ (hw _ (List.mem_of_getElem? (i := 90) rfl))) (by decide) (backOf (W := 0) (r11_568 l Z a0 hw [] T568.heap n0 Z568 b467 fq568_3) hZ (hw _ (List.mem_of_getElem? (i := 92) rfl)) (hw _ (List.mem_of_getElem? (i := 2) rfl)) (by decide) (by decide)) q597a q597c (g := (mkF m 35 #[iv p1, iv p2, iv 1, iv 1, rv b467, .unset, .unset, .unset, .unset, .unset, .unset] [(.ref b467)])) rfl (by rw [hml]; rfl) (Steps.refl _) (argsL := []) (rest := []) (lenOf pd5 rfl) rfl (by show 2 * 0 + _ ≤ _; exact Nat.le_of_eq rfl) (hb hby at_35) (fun _ _ => ⟨rfl, rfl, (by decide : 3 + 0 ≤ _), (by decide : 10 + 0 ≤ _)⟩)
        dsimp only [Pt.U, Pt.locs, Pt.cells, Pt.slots] at X597 l597 y597 z597 st597 hQ597
        subst l597 y597 z597
        obtain ⟨rfl, Nq597, e597⟩ := hQ597
        have N597 := Fr.app N568 Nq597
        refine Goes.tr st597 ?_
        refine Goes.by (fun _ kz => XS.istore X597.here hx rfl (hb hby at_38) rfl (l' := #[iv p1, iv p2, iv 1, iv 1, rv b467, iv 0, .unset, .unset, .unset, .unset, .unset]) rfl (XS.aload X597.here hx rfl (hb hby at_40) rfl rfl (XS.iloadN X597.here hx rfl (hb hby at_42) rfl kz))) ?_
        obtain ⟨cq599, kq599, q599a, q599b, q599c⟩ := isOf hZ e597 f598
        obtain ⟨_, _, ⟨T599, L599, k599, n599⟩, -, X599, ⟨Lc599, hQ599, l599, y599, z599⟩, st599⟩ := X597.virtualBack hx (y := (⟨"com/example/entail/entail/model/EntrySettings", "setBlocks", "(Z)Z"⟩ : MethodName)) (z := (⟨"com/example/entail/entail/model/EntrySettings", "setBlocks", "(Z)Z"⟩ : MethodName)) hown (mvT hZ (hw _ (List.mem_of_getElem? (i := 95) rfl))) (mvT hZ (hw _ (List.mem_of_getElem? (i := 96) rfl))) (notFace_of_selects (args := #[]) (mvT hZ (hw _ (List.mem_of_getElem? (i := 98) rfl)))) (mvT hZ (hw _ (List.mem_of_getElem? (i := 98) rfl))) (mvT hZ (hw _ (List.mem_of_getElem? (i := 97) rfl))) (by decide) (backOf (W := 0) (r12_573 l Z a0 hw [] T568.heap n0 Z568 q2 b467 b471_568 f598 fq568_0 fq568_1 fq568_2 fq568_3 g_b467) hZ (hw _ (List.mem_of_getElem? (i := 99) rfl)) (hw _ (List.mem_of_getElem? (i := 2) rfl)) (by decide) (by decide)) q599a q599c (g := (mkF m 43 #[iv p1, iv p2, iv 1, iv 1, rv b467, iv 0, .unset, .unset, .unset, .unset, .unset] [(.int 1), (.ref b467)])) rfl (by rw [hml]; rfl) (Steps.refl _) (argsL := [(.int 1)]) (rest := []) (lenOf pd6 rfl) rfl (by show 2 * 0 + _ ≤ _; exact Nat.le_of_eq rfl) (hb hby at_43) (fun _ _ => ⟨rfl, e597, (by decide : 3 + 0 ≤ _), (by decide : 10 + 0 ≤ _)⟩)
        dsimp only [Pt.U, Pt.locs, Pt.cells, Pt.slots] at X599 l599 y599 z599 st599 hQ599
        subst l599 y599 z599
        obtain ⟨rfl, Nq599, Kq599, fq599_0, fq599_1, fq599_2, fq599_3⟩ := hQ599
        have K599 : Keep h0 T599.heap [] := Keep.trans K568 Kq599 (allS (Or.inr sz_b467) all0)
        have Z599 : n0 ≤ T599.heap.size := Nat.le_trans Z568 Kq599.1
        have N599 := Fr.app N597 Nq599
        refine Goes.tr st599 ?_
        refine Goes.by (fun _ kz => XS.istore X599.here hx rfl (hb hby at_46) rfl (l' := #[iv p1, iv p2, iv 1, iv 1, rv b467, iv 0, iv 1, .unset, .unset, .unset, .unset]) rfl (XS.aload X599.here hx rfl (hb hby at_48) rfl rfl kz)) ?_
        have f601 := (f598.keep Kq599)
        obtain ⟨cq600, kq600, q600a, q600b, q600c⟩ := isOf hZ rfl f601
        obtain ⟨_, _, ⟨T600, L600, k600, n600⟩, -, X600, ⟨Lc600, hQ600, l600, y600, z600⟩, st600⟩ := X599.virtualBack hx (y := (⟨"com/example/entail/entail/model/EntrySettings", "blocks", "()Z"⟩ : MethodName)) (z := (⟨"com/example/entail/entail/model/EntrySettings", "blocks", "()Z"⟩ : MethodName)) hown (mvT hZ (hw _ (List.mem_of_getElem? (i := 88) rfl))) (mvT hZ (hw _ (List.mem_of_getElem? (i := 89) rfl))) (notFace_of_selects (args := #[]) (mvT hZ (hw _ (List.mem_of_getElem? (i := 91) rfl)))) (mvT hZ (hw _ (List.mem_of_getElem? (i := 91) rfl))) (mvT hZ (hw _ (List.mem_of_getElem? (i := 90) rfl))) (by decide) (backOf (W := 0) (r11_581 l Z a0 hw [] T599.heap n0 Z599 b467 fq599_3) hZ (hw _ (List.mem_of_getElem? (i := 92) rfl)) (hw _ (List.mem_of_getElem? (i := 2) rfl)) (by decide) (by decide)) q600a q600c (g := (mkF m 50 #[iv p1, iv p2, iv 1, iv 1, rv b467, iv 0, iv 1, .unset, .unset, .unset, .unset] [(.ref b467)])) rfl (by rw [hml]; rfl) (Steps.refl _) (argsL := []) (rest := []) (lenOf pd5 rfl) rfl (by show 2 * 0 + _ ≤ _; exact Nat.le_of_eq rfl) (hb hby at_50) (fun _ _ => ⟨rfl, rfl, (by decide : 3 + 0 ≤ _), (by decide : 10 + 0 ≤ _)⟩)
        dsimp only [Pt.U, Pt.locs, Pt.cells, Pt.slots] at X600 l600 y600 z600 st600 hQ600
        subst l600 y600 z600
        obtain ⟨rfl, Nq600, e600⟩ := hQ600
        have N600 := Fr.app N599 Nq600
        refine Goes.tr st600 ?_
        refine Goes.by (fun _ kz => XS.istore X600.here hx rfl (hb hby at_53) rfl (l' := #[iv p1, iv p2, iv 1, iv 1, rv b467, iv 0, iv 1, iv 1, .unset, .unset, .unset]) rfl (XS.aload X600.here hx rfl (hb hby at_55) rfl rfl (XS.iloadN X600.here hx rfl (hb hby at_57) rfl kz))) ?_
        obtain ⟨cq602, kq602, q602a, q602b, q602c⟩ := isOf hZ e600 f601
        obtain ⟨_, _, ⟨T602, L602, k602, n602⟩, -, X602, ⟨Lc602, hQ602, l602, y602, z602⟩, st602⟩ := X600.virtualBack hx (y := (⟨"com/example/entail/entail/model/EntrySettings", "setBlocks", "(Z)Z"⟩ : MethodName)) (z := (⟨"com/example/entail/entail/model/EntrySettings", "setBlocks", "(Z)Z"⟩ : MethodName)) hown (mvT hZ (hw _ (List.mem_of_getElem? (i := 95) rfl))) (mvT hZ (hw _ (List.mem_of_getElem? (i := 96) rfl))) (notFace_of_selects (args := #[]) (mvT hZ (hw _ (List.mem_of_getElem? (i := 98) rfl)))) (mvT hZ (hw _ (List.mem_of_getElem? (i := 98) rfl))) (mvT hZ (hw _ (List.mem_of_getElem? (i := 97) rfl))) (by decide) (backOf (W := 0) (r12_586 l Z a0 hw [] T599.heap n0 Z599 q2 b467 b471_568 f601 fq599_0 fq599_1 fq599_2 fq599_3 g_b467) hZ (hw _ (List.mem_of_getElem? (i := 99) rfl)) (hw _ (List.mem_of_getElem? (i := 2) rfl)) (by decide) (by decide)) q602a q602c (g := (mkF m 58 #[iv p1, iv p2, iv 1, iv 1, rv b467, iv 0, iv 1, iv 1, .unset, .unset, .unset] [(.int 1), (.ref b467)])) rfl (by rw [hml]; rfl) (Steps.refl _) (argsL := [(.int 1)]) (rest := []) (lenOf pd6 rfl) rfl (by show 2 * 0 + _ ≤ _; exact Nat.le_of_eq rfl) (hb hby at_58) (fun _ _ => ⟨rfl, e600, (by decide : 3 + 0 ≤ _), (by decide : 10 + 0 ≤ _)⟩)
        dsimp only [Pt.U, Pt.locs, Pt.cells, Pt.slots] at X602 l602 y602 z602 st602 hQ602
        subst l602 y602 z602
        obtain ⟨rfl, Nq602, Kq602, fq602_0, fq602_1, fq602_2, fq602_3⟩ := hQ602
        have K602 : Keep h0 T602.heap [] := Keep.trans K599 Kq602 (allS (Or.inr sz_b467) all0)
        have Z602 : n0 ≤ T602.heap.size := Nat.le_trans Z599 Kq602.1
        have N602 := Fr.app N600 Nq602
        refine Goes.tr st602 ?_
        refine Goes.by (fun _ kz => XS.istore X602.here hx rfl (hb hby at_61) rfl (l' := #[iv p1, iv p2, iv 1, iv 1, rv b467, iv 0, iv 1, iv 1, iv 0, .unset, .unset]) rfl (XS.aload X602.here hx rfl (hb hby at_63) rfl rfl kz)) ?_
        have f604 := (f601.keep Kq602)
        obtain ⟨cq603, kq603, q603a, q603b, q603c⟩ := isOf hZ rfl f604
        obtain ⟨_, _, ⟨T603, L603, k603, n603⟩, -, X603, ⟨Lc603, hQ603, l603, y603, z603⟩, st603⟩ := X602.virtualBack hx (y := (⟨"com/example/entail/entail/model/EntrySettings", "blocks", "()Z"⟩ : MethodName)) (z := (⟨"com/example/entail/entail/model/EntrySettings", "blocks", "()Z"⟩ : MethodName)) hown (mvT hZ (hw _ (List.mem_of_getElem? (i := 88) rfl))) (mvT hZ (hw _ (List.mem_of_getElem? (i := 89) rfl))) (notFace_of_selects (args := #[]) (mvT hZ (hw _ (List.mem_of_getElem? (i := 91) rfl)))) (mvT hZ (hw _ (List.mem_of_getElem? (i := 91) rfl))) (mvT hZ (hw _ (List.mem_of_getElem? (i := 90) rfl))) (by decide) (backOf (W := 0) (r11_581 l Z a0 hw [] T602.heap n0 Z602 b467 fq602_3) hZ (hw _ (List.mem_of_getElem? (i := 92) rfl)) (hw _ (List.mem_of_getElem? (i := 2) rfl)) (by decide) (by decide)) q603a q603c (g := (mkF m 65 #[iv p1, iv p2, iv 1, iv 1, rv b467, iv 0, iv 1, iv 1, iv 0, .unset, .unset] [(.ref b467)])) rfl (by rw [hml]; rfl) (Steps.refl _) (argsL := []) (rest := []) (lenOf pd5 rfl) rfl (by show 2 * 0 + _ ≤ _; exact Nat.le_of_eq rfl) (hb hby at_65) (fun _ _ => ⟨rfl, rfl, (by decide : 3 + 0 ≤ _), (by decide : 10 + 0 ≤ _)⟩)
        dsimp only [Pt.U, Pt.locs, Pt.cells, Pt.slots] at X603 l603 y603 z603 st603 hQ603
        subst l603 y603 z603
        obtain ⟨rfl, Nq603, e603⟩ := hQ603
        have N603 := Fr.app N602 Nq603
        refine Goes.tr st603 ?_
        refine Goes.by (fun _ kz => XS.istore X603.here hx rfl (hb hby at_68) rfl (l' := #[iv p1, iv p2, iv 1, iv 1, rv b467, iv 0, iv 1, iv 1, iv 0, iv 1, .unset]) rfl (XS.iload X603.here hx rfl (hb hby at_70) rfl (XS.ifNo X603.here hx rfl (hb hby at_72) rfl ((if0 _ _).trans (teq (by decide : (0 : Int32) = (0 : Int32))).2) kz))) ?_
        show Goes p e below (T603.setTop (mkF m 75 #[iv p1, iv p2, iv 1, iv 1, rv b467, iv 0, iv 1, iv 1, iv 0, iv 1, .unset] [])) _
        refine Goes.by (fun _ kz => XS.iconst X603.here hx rfl (hb hby at_75) (XS.goto X603.here hx rfl (pc0 := 76) (pc' := 80) rfl (hb hby at_76) (by decide) (by decide) (XS.istore X603.here hx rfl (hb hby at_80) rfl (l' := #[iv p1, iv p2, iv 1, iv 1, rv b467, iv 0, iv 1, iv 1, iv 0, iv 1, iv 1]) rfl kz))) ?_
        show Goes p e below (T603.setTop (mkF m 82 #[iv p1, iv p2, iv 1, iv 1, rv b467, iv 0, iv 1, iv 1, iv 0, iv 1, iv 1] [])) _
        refine Goes.by (fun _ kz => XS.iload X603.here hx rfl (hb hby at_82) rfl (XS.ifNo X603.here hx rfl (hb hby at_84) rfl ((if0 _ _).trans (feq (by decide : ¬ ((1 : Int32) = (0 : Int32)))).1) (XS.iload X603.here hx rfl (hb hby at_87) rfl kz))) ?_
        show Goes p e below (T603.setTop (mkF m 89 #[iv p1, iv p2, iv 1, iv 1, rv b467, iv 0, iv 1, iv 1, iv 0, iv 1, iv 1] [(.int 1)])) _
        refine Goes.by (fun _ kz => XS.iloadN X603.here hx rfl (hb hby at_89) rfl (XS.icmpNo X603.here hx rfl (hb hby at_90) rfl (teq (by decide : (1 : Int32) = (1 : Int32))).2 (XS.iconst X603.here hx rfl (hb hby at_93) kz))) ?_
        show Goes p e below (T603.setTop (mkF m 94 #[iv p1, iv p2, iv 1, iv 1, rv b467, iv 0, iv 1, iv 1, iv 0, iv 1, iv 1] [(.int 1)])) _
        refine Goes.by (fun _ kz => XS.goto X603.here hx rfl (pc0 := 94) (pc' := 98) rfl (hb hby at_94) (by decide) (by decide) (XS.istore X603.here hx rfl (hb hby at_98) rfl (l' := #[iv p1, iv p2, iv 1, iv 1, rv b467, iv 0, iv 1, iv 1, iv 0, iv 1, iv 1]) rfl (XS.iload X603.here hx rfl (hb hby at_100) rfl kz))) ?_
        show Goes p e below (T603.setTop (mkF m 102 #[iv p1, iv p2, iv 1, iv 1, rv b467, iv 0, iv 1, iv 1, iv 0, iv 1, iv 1] [(.int 1)])) _
        refine Goes.by (fun _ kz => XS.ifNo X603.here hx rfl (hb hby at_102) rfl ((if0 _ _).trans (feq (by decide : ¬ ((1 : Int32) = (0 : Int32)))).1) (XS.iload X603.here hx rfl (hb hby at_105) rfl (XS.iloadN X603.here hx rfl (hb hby at_107) rfl kz))) ?_
        show Goes p e below (T603.setTop (mkF m 108 #[iv p1, iv p2, iv 1, iv 1, rv b467, iv 0, iv 1, iv 1, iv 0, iv 1, iv 1] [(.int 1), (.int 1)])) _
        refine Goes.by (fun _ kz => XS.icmpNo X603.here hx rfl (hb hby at_108) rfl (teq (by decide : (1 : Int32) = (1 : Int32))).2 (XS.iconst X603.here hx rfl (hb hby at_111) (XS.goto X603.here hx rfl (pc0 := 112) (pc' := 116) rfl (hb hby at_112) (by decide) (by decide) kz))) ?_
        show Goes p e below (T603.setTop (mkF m 116 #[iv p1, iv p2, iv 1, iv 1, rv b467, iv 0, iv 1, iv 1, iv 0, iv 1, iv 1] [(.int 1)])) _
        refine Goes.by (fun _ kz => XS.istore X603.here hx rfl (hb hby at_116) rfl (l' := #[iv p1, iv p2, iv 1, iv 1, rv b467, iv 0, iv 1, iv 1, iv 0, iv 1, iv 1]) rfl (XS.iload X603.here hx rfl (hb hby at_118) rfl (XS.ifNo X603.here hx rfl (hb hby at_120) rfl ((if0 _ _).trans (feq (by decide : ¬ ((1 : Int32) = (0 : Int32)))).1) kz))) ?_
        show Goes p e below (T603.setTop (mkF m 123 #[iv p1, iv p2, iv 1, iv 1, rv b467, iv 0, iv 1, iv 1, iv 0, iv 1, iv 1] [])) _
        refine Goes.by (fun _ kz => XS.iload X603.here hx rfl (hb hby at_123) rfl (XS.iloadN X603.here hx rfl (hb hby at_125) rfl (XS.iloadN X603.here hx rfl (hb hby at_126) rfl kz))) ?_
        show Goes p e below (T603.setTop (mkF m 127 #[iv p1, iv p2, iv 1, iv 1, rv b467, iv 0, iv 1, iv 1, iv 0, iv 1, iv 1] [(.int 1), (.int 1), (.int 0)])) _
        refine Goes.by (fun _ kz => XS.icmpYes X603.here hx rfl (pc0 := 127) (pc' := 134) rfl (hb hby at_127) rfl (teq (by decide : (1 : Int32) = (1 : Int32))).1 (by decide) (by decide) (XS.iconst X603.here hx rfl (hb hby at_134) (XS.icmpNo X603.here hx rfl (hb hby at_135) rfl (teq (by decide : (0 : Int32) = (0 : Int32))).2 kz))) ?_
        show Goes p e below (T603.setTop (mkF m 138 #[iv p1, iv p2, iv 1, iv 1, rv b467, iv 0, iv 1, iv 1, iv 0, iv 1, iv 1] [])) _
        refine Goes.by (fun _ kz => XS.iconst X603.here hx rfl (hb hby at_138) (XS.goto X603.here hx rfl (pc0 := 139) (pc' := 143) rfl (hb hby at_139) (by decide) (by decide) (XS.istore X603.here hx rfl (hb hby at_143) rfl (l' := #[iv p1, iv p2, iv 1, iv 1, rv b467, iv 0, iv 1, iv 1, iv 0, iv 1, iv 1]) rfl kz))) ?_
        show Goes p e below (T603.setTop (mkF m 145 #[iv p1, iv p2, iv 1, iv 1, rv b467, iv 0, iv 1, iv 1, iv 0, iv 1, iv 1] [])) _
        refine Goes.by (fun _ kz => XS.iload X603.here hx rfl (hb hby at_145) rfl (XS.ifNo X603.here hx rfl (hb hby at_147) rfl ((if0 _ _).trans (feq (by decide : ¬ ((1 : Int32) = (0 : Int32)))).1) (XS.iload X603.here hx rfl (hb hby at_150) rfl kz))) ?_
        show Goes p e below (T603.setTop (mkF m 152 #[iv p1, iv p2, iv 1, iv 1, rv b467, iv 0, iv 1, iv 1, iv 0, iv 1, iv 1] [(.int 1)])) _
        refine Goes.by (fun _ kz => XS.iloadN X603.here hx rfl (hb hby at_152) rfl (XS.icmpNo X603.here hx rfl (hb hby at_153) rfl (teq (by decide : (1 : Int32) = (1 : Int32))).2 (XS.iconst X603.here hx rfl (hb hby at_156) kz))) ?_
        show Goes p e below (T603.setTop (mkF m 157 #[iv p1, iv p2, iv 1, iv 1, rv b467, iv 0, iv 1, iv 1, iv 0, iv 1, iv 1] [(.int 1)])) _
        refine Goes.by (fun _ kz => XS.goto X603.here hx rfl (pc0 := 157) (pc' := 161) rfl (hb hby at_157) (by decide) (by decide) (XS.istore X603.here hx rfl (hb hby at_161) rfl (l' := #[iv p1, iv p2, iv 1, iv 1, rv b467, iv 0, iv 1, iv 1, iv 0, iv 1, iv 1]) rfl (XS.iload X603.here hx rfl (hb hby at_163) rfl kz))) ?_
        show Goes p e below (T603.setTop (mkF m 165 #[iv p1, iv p2, iv 1, iv 1, rv b467, iv 0, iv 1, iv 1, iv 0, iv 1, iv 1] [(.int 1)])) _
        obtain ⟨fs, hr, hrun, hended, hW, hsame⟩ := X603.leave (v := some (.int 1)) (fun h => by rw [Bd.returns] at h; cases h)
        exact ⟨_, _, retN X603 hx (t := .boolean) Bd.returns (by simp) (hb hby at_165) hr, hrun, hended, _, _, rfl, ⟨rfl, N603⟩, ⟨_, rfl⟩, hW, hsame.mono (by decide) (by decide)⟩
      · obtain ⟨b471_568, b503_522_568, rfl, Nq568, Kq568, sq568_b471, sq568_b503_522, fq568_0, fq568_1, fq568_2, fq568_3, fq568_4, fq568_5, fq568_6, fq568_7, fq568_8, fq568_9, hc568_522_498, hc568_522_501⟩ := hQ568
        have K568 : Keep h0 T568.heap [] := Keep.trans K467 Kq568 (allS (Or.inr sz_b467) all0)
        have Z568 : n0 ≤ T568.heap.size := Nat.le_trans Z467 Kq568.1
        have ne568_b471_b467 : b467 ≠ b471_568 := Nat.ne_of_lt (Nat.lt_of_lt_of_le A467.lt sq568_b471)
        have g_b471_568 : n0 ≤ b471_568 := Nat.le_trans Z467 sq568_b471
        have sz_b471_568 : h0.size ≤ b471_568 := Nat.le_trans K467.1 sq568_b471
        have ne568_b503_522_b467 : b467 ≠ b503_522_568 := Nat.ne_of_lt (Nat.lt_of_lt_of_le A467.lt sq568_b503_522)
        have g_b503_522_568 : n0 ≤ b503_522_568 := Nat.le_trans Z467 sq568_b503_522
        have sz_b503_522_568 : h0.size ≤ b503_522_568 := Nat.le_trans K467.1 sq568_b503_522
        have N568 := Fr.app N0 Nq568
        refine Goes.tr st568 ?_
        refine Goes.by (fun _ kz => XS.astore X568.here hx rfl (hb hby at_31) rfl rfl (l' := #[iv p1, iv p2, iv 1, iv 1, rv b467, .unset, .unset, .unset, .unset, .unset, .unset]) rfl (XS.aload X568.here hx rfl (hb hby at_33) rfl rfl kz)) ?_
        have f606 := (A467.keep Kq568)
        obtain ⟨cq605, kq605, q605a, q605b, q605c⟩ := isOf hZ rfl f606
        obtain ⟨_, _, ⟨T605, L605, k605, n605⟩, -, X605, ⟨Lc605, hQ605, l605, y605, z605⟩, st605⟩ := X568.virtualBack hx (y := (⟨"com/example/entail/entail/model/EntrySettings", "blocks", "()Z"⟩ : MethodName)) (z := (⟨"com/example/entail/entail/model/EntrySettings", "blocks", "()Z"⟩ : MethodName)) hown (mvT hZ (hw _ (List.mem_of_getElem? (i := 88) rfl))) (mvT hZ (hw _ (List.mem_of_getElem? (i := 89) rfl))) (notFace_of_selects (args := #[]) (mvT hZ (hw _ (List.mem_of_getElem? (i := 91) rfl)))) (mvT hZ (hw _ (List.mem_of_getElem? (i := 91) rfl))) (mvT hZ (hw _ (List.mem_of_getElem? (i := 90) rfl))) (by decide) (backOf (W := 0) (r11_568 l Z a0 hw [] T568.heap n0 Z568 b467 fq568_3) hZ (hw _ (List.mem_of_getElem? (i := 92) rfl)) (hw _ (List.mem_of_getElem? (i := 2) rfl)) (by decide) (by decide)) q605a q605c (g := (mkF m 35 #[iv p1, iv p2, iv 1, iv 1, rv b467, .unset, .unset, .unset, .unset, .unset, .unset] [(.ref b467)])) rfl (by rw [hml]; rfl) (Steps.refl _) (argsL := []) (rest := []) (lenOf pd5 rfl) rfl (by show 2 * 0 + _ ≤ _; exact Nat.le_of_eq rfl) (hb hby at_35) (fun _ _ => ⟨rfl, rfl, (by decide : 3 + 0 ≤ _), (by decide : 10 + 0 ≤ _)⟩)
        dsimp only [Pt.U, Pt.locs, Pt.cells, Pt.slots] at X605 l605 y605 z605 st605 hQ605
        subst l605 y605 z605
        obtain ⟨rfl, Nq605, e605⟩ := hQ605
        have N605 := Fr.app N568 Nq605
        refine Goes.tr st605 ?_
        refine Goes.by (fun _ kz => XS.istore X605.here hx rfl (hb hby at_38) rfl (l' := #[iv p1, iv p2, iv 1, iv 1, rv b467, iv 0, .unset, .unset, .unset, .unset, .unset]) rfl (XS.aload X605.here hx rfl (hb hby at_40) rfl rfl (XS.iloadN X605.here hx rfl (hb hby at_42) rfl kz))) ?_
        obtain ⟨cq614, kq614, q614a, q614b, q614c⟩ := isOf hZ e605 f606
        obtain ⟨_, _, ⟨T614, L614, k614, n614⟩, -, X614, ⟨Lc614, hQ614, l614, y614, z614⟩, st614⟩ := X605.virtualBack hx (y := (⟨"com/example/entail/entail/model/EntrySettings", "setBlocks", "(Z)Z"⟩ : MethodName)) (z := (⟨"com/example/entail/entail/model/EntrySettings", "setBlocks", "(Z)Z"⟩ : MethodName)) hown (mvT hZ (hw _ (List.mem_of_getElem? (i := 95) rfl))) (mvT hZ (hw _ (List.mem_of_getElem? (i := 96) rfl))) (notFace_of_selects (args := #[]) (mvT hZ (hw _ (List.mem_of_getElem? (i := 98) rfl)))) (mvT hZ (hw _ (List.mem_of_getElem? (i := 98) rfl))) (mvT hZ (hw _ (List.mem_of_getElem? (i := 97) rfl))) (by decide) (backOf (W := 0) (r12_606 l Z a0 hw [] T568.heap n0 Z568 q2 b467 b471_568 b503_522_568 f606 fq568_0 fq568_1 fq568_2 fq568_3 g_b467) hZ (hw _ (List.mem_of_getElem? (i := 99) rfl)) (hw _ (List.mem_of_getElem? (i := 2) rfl)) (by decide) (by decide)) q614a q614c (g := (mkF m 43 #[iv p1, iv p2, iv 1, iv 1, rv b467, iv 0, .unset, .unset, .unset, .unset, .unset] [(.int 1), (.ref b467)])) rfl (by rw [hml]; rfl) (Steps.refl _) (argsL := [(.int 1)]) (rest := []) (lenOf pd6 rfl) rfl (by show 2 * 0 + _ ≤ _; exact Nat.le_of_eq rfl) (hb hby at_43) (fun _ _ => ⟨rfl, e605, (by decide : 3 + 0 ≤ _), (by decide : 10 + 0 ≤ _)⟩)
        dsimp only [Pt.U, Pt.locs, Pt.cells, Pt.slots] at X614 l614 y614 z614 st614 hQ614
        subst l614 y614 z614
        obtain ⟨rfl, Nq614, Kq614, fq614_0, fq614_1, fq614_2, fq614_3⟩ := hQ614
        have K614 : Keep h0 T614.heap [] := Keep.trans K568 Kq614 (allS (Or.inr sz_b467) all0)
        have Z614 : n0 ≤ T614.heap.size := Nat.le_trans Z568 Kq614.1
        have N614 := Fr.app N605 Nq614
        refine Goes.tr st614 ?_
        refine Goes.by (fun _ kz => XS.istore X614.here hx rfl (hb hby at_46) rfl (l' := #[iv p1, iv p2, iv 1, iv 1, rv b467, iv 0, iv 1, .unset, .unset, .unset, .unset]) rfl (XS.aload X614.here hx rfl (hb hby at_48) rfl rfl kz)) ?_
        have f616 := (f606.keep Kq614)
        obtain ⟨cq615, kq615, q615a, q615b, q615c⟩ := isOf hZ rfl f616
        obtain ⟨_, _, ⟨T615, L615, k615, n615⟩, -, X615, ⟨Lc615, hQ615, l615, y615, z615⟩, st615⟩ := X614.virtualBack hx (y := (⟨"com/example/entail/entail/model/EntrySettings", "blocks", "()Z"⟩ : MethodName)) (z := (⟨"com/example/entail/entail/model/EntrySettings", "blocks", "()Z"⟩ : MethodName)) hown (mvT hZ (hw _ (List.mem_of_getElem? (i := 88) rfl))) (mvT hZ (hw _ (List.mem_of_getElem? (i := 89) rfl))) (notFace_of_selects (args := #[]) (mvT hZ (hw _ (List.mem_of_getElem? (i := 91) rfl)))) (mvT hZ (hw _ (List.mem_of_getElem? (i := 91) rfl))) (mvT hZ (hw _ (List.mem_of_getElem? (i := 90) rfl))) (by decide) (backOf (W := 0) (r11_581 l Z a0 hw [] T614.heap n0 Z614 b467 fq614_3) hZ (hw _ (List.mem_of_getElem? (i := 92) rfl)) (hw _ (List.mem_of_getElem? (i := 2) rfl)) (by decide) (by decide)) q615a q615c (g := (mkF m 50 #[iv p1, iv p2, iv 1, iv 1, rv b467, iv 0, iv 1, .unset, .unset, .unset, .unset] [(.ref b467)])) rfl (by rw [hml]; rfl) (Steps.refl _) (argsL := []) (rest := []) (lenOf pd5 rfl) rfl (by show 2 * 0 + _ ≤ _; exact Nat.le_of_eq rfl) (hb hby at_50) (fun _ _ => ⟨rfl, rfl, (by decide : 3 + 0 ≤ _), (by decide : 10 + 0 ≤ _)⟩)
        dsimp only [Pt.U, Pt.locs, Pt.cells, Pt.slots] at X615 l615 y615 z615 st615 hQ615
        subst l615 y615 z615
        obtain ⟨rfl, Nq615, e615⟩ := hQ615
        have N615 := Fr.app N614 Nq615
        refine Goes.tr st615 ?_
        refine Goes.by (fun _ kz => XS.istore X615.here hx rfl (hb hby at_53) rfl (l' := #[iv p1, iv p2, iv 1, iv 1, rv b467, iv 0, iv 1, iv 1, .unset, .unset, .unset]) rfl (XS.aload X615.here hx rfl (hb hby at_55) rfl rfl (XS.iloadN X615.here hx rfl (hb hby at_57) rfl kz))) ?_
        obtain ⟨cq624, kq624, q624a, q624b, q624c⟩ := isOf hZ e615 f616
        obtain ⟨_, _, ⟨T624, L624, k624, n624⟩, -, X624, ⟨Lc624, hQ624, l624, y624, z624⟩, st624⟩ := X615.virtualBack hx (y := (⟨"com/example/entail/entail/model/EntrySettings", "setBlocks", "(Z)Z"⟩ : MethodName)) (z := (⟨"com/example/entail/entail/model/EntrySettings", "setBlocks", "(Z)Z"⟩ : MethodName)) hown (mvT hZ (hw _ (List.mem_of_getElem? (i := 95) rfl))) (mvT hZ (hw _ (List.mem_of_getElem? (i := 96) rfl))) (notFace_of_selects (args := #[]) (mvT hZ (hw _ (List.mem_of_getElem? (i := 98) rfl)))) (mvT hZ (hw _ (List.mem_of_getElem? (i := 98) rfl))) (mvT hZ (hw _ (List.mem_of_getElem? (i := 97) rfl))) (by decide) (backOf (W := 0) (r12_616 l Z a0 hw [] T614.heap n0 Z614 q2 b467 b471_568 b503_522_568 f616 fq614_0 fq614_1 fq614_2 fq614_3 g_b467) hZ (hw _ (List.mem_of_getElem? (i := 99) rfl)) (hw _ (List.mem_of_getElem? (i := 2) rfl)) (by decide) (by decide)) q624a q624c (g := (mkF m 58 #[iv p1, iv p2, iv 1, iv 1, rv b467, iv 0, iv 1, iv 1, .unset, .unset, .unset] [(.int 1), (.ref b467)])) rfl (by rw [hml]; rfl) (Steps.refl _) (argsL := [(.int 1)]) (rest := []) (lenOf pd6 rfl) rfl (by show 2 * 0 + _ ≤ _; exact Nat.le_of_eq rfl) (hb hby at_58) (fun _ _ => ⟨rfl, e615, (by decide : 3 + 0 ≤ _), (by decide : 10 + 0 ≤ _)⟩)
        dsimp only [Pt.U, Pt.locs, Pt.cells, Pt.slots] at X624 l624 y624 z624 st624 hQ624
        subst l624 y624 z624
        obtain ⟨rfl, Nq624, Kq624, fq624_0, fq624_1, fq624_2, fq624_3⟩ := hQ624
        have K624 : Keep h0 T624.heap [] := Keep.trans K614 Kq624 (allS (Or.inr sz_b467) all0)
        have Z624 : n0 ≤ T624.heap.size := Nat.le_trans Z614 Kq624.1
        have N624 := Fr.app N615 Nq624
        refine Goes.tr st624 ?_
        refine Goes.by (fun _ kz => XS.istore X624.here hx rfl (hb hby at_61) rfl (l' := #[iv p1, iv p2, iv 1, iv 1, rv b467, iv 0, iv 1, iv 1, iv 0, .unset, .unset]) rfl (XS.aload X624.here hx rfl (hb hby at_63) rfl rfl kz)) ?_
        have f626 := (f616.keep Kq624)
        obtain ⟨cq625, kq625, q625a, q625b, q625c⟩ := isOf hZ rfl f626
        obtain ⟨_, _, ⟨T625, L625, k625, n625⟩, -, X625, ⟨Lc625, hQ625, l625, y625, z625⟩, st625⟩ := X624.virtualBack hx (y := (⟨"com/example/entail/entail/model/EntrySettings", "blocks", "()Z"⟩ : MethodName)) (z := (⟨"com/example/entail/entail/model/EntrySettings", "blocks", "()Z"⟩ : MethodName)) hown (mvT hZ (hw _ (List.mem_of_getElem? (i := 88) rfl))) (mvT hZ (hw _ (List.mem_of_getElem? (i := 89) rfl))) (notFace_of_selects (args := #[]) (mvT hZ (hw _ (List.mem_of_getElem? (i := 91) rfl)))) (mvT hZ (hw _ (List.mem_of_getElem? (i := 91) rfl))) (mvT hZ (hw _ (List.mem_of_getElem? (i := 90) rfl))) (by decide) (backOf (W := 0) (r11_581 l Z a0 hw [] T624.heap n0 Z624 b467 fq624_3) hZ (hw _ (List.mem_of_getElem? (i := 92) rfl)) (hw _ (List.mem_of_getElem? (i := 2) rfl)) (by decide) (by decide)) q625a q625c (g := (mkF m 65 #[iv p1, iv p2, iv 1, iv 1, rv b467, iv 0, iv 1, iv 1, iv 0, .unset, .unset] [(.ref b467)])) rfl (by rw [hml]; rfl) (Steps.refl _) (argsL := []) (rest := []) (lenOf pd5 rfl) rfl (by show 2 * 0 + _ ≤ _; exact Nat.le_of_eq rfl) (hb hby at_65) (fun _ _ => ⟨rfl, rfl, (by decide : 3 + 0 ≤ _), (by decide : 10 + 0 ≤ _)⟩)
        dsimp only [Pt.U, Pt.locs, Pt.cells, Pt.slots] at X625 l625 y625 z625 st625 hQ625
        subst l625 y625 z625
        obtain ⟨rfl, Nq625, e625⟩ := hQ625
        have N625 := Fr.app N624 Nq625
        refine Goes.tr st625 ?_
        refine Goes.by (fun _ kz => XS.istore X625.here hx rfl (hb hby at_68) rfl (l' := #[iv p1, iv p2, iv 1, iv 1, rv b467, iv 0, iv 1, iv 1, iv 0, iv 1, .unset]) rfl (XS.iload X625.here hx rfl (hb hby at_70) rfl (XS.ifNo X625.here hx rfl (hb hby at_72) rfl ((if0 _ _).trans (teq (by decide : (0 : Int32) = (0 : Int32))).2) kz))) ?_
        show Goes p e below (T625.setTop (mkF m 75 #[iv p1, iv p2, iv 1, iv 1, rv b467, iv 0, iv 1, iv 1, iv 0, iv 1, .unset] [])) _
        refine Goes.by (fun _ kz => XS.iconst X625.here hx rfl (hb hby at_75) (XS.goto X625.here hx rfl (pc0 := 76) (pc' := 80) rfl (hb hby at_76) (by decide) (by decide) (XS.istore X625.here hx rfl (hb hby at_80) rfl (l' := #[iv p1, iv p2, iv 1, iv 1, rv b467, iv 0, iv 1, iv 1, iv 0, iv 1, iv 1]) rfl kz))) ?_
        show Goes p e below (T625.setTop (mkF m 82 #[iv p1, iv p2, iv 1, iv 1, rv b467, iv 0, iv 1, iv 1, iv 0, iv 1, iv 1] [])) _
        refine Goes.by (fun _ kz => XS.iload X625.here hx rfl (hb hby at_82) rfl (XS.ifNo X625.here hx rfl (hb hby at_84) rfl ((if0 _ _).trans (feq (by decide : ¬ ((1 : Int32) = (0 : Int32)))).1) (XS.iload X625.here hx rfl (hb hby at_87) rfl kz))) ?_
        show Goes p e below (T625.setTop (mkF m 89 #[iv p1, iv p2, iv 1, iv 1, rv b467, iv 0, iv 1, iv 1, iv 0, iv 1, iv 1] [(.int 1)])) _
        refine Goes.by (fun _ kz => XS.iloadN X625.here hx rfl (hb hby at_89) rfl (XS.icmpNo X625.here hx rfl (hb hby at_90) rfl (teq (by decide : (1 : Int32) = (1 : Int32))).2 (XS.iconst X625.here hx rfl (hb hby at_93) kz))) ?_
        show Goes p e below (T625.setTop (mkF m 94 #[iv p1, iv p2, iv 1, iv 1, rv b467, iv 0, iv 1, iv 1, iv 0, iv 1, iv 1] [(.int 1)])) _
        refine Goes.by (fun _ kz => XS.goto X625.here hx rfl (pc0 := 94) (pc' := 98) rfl (hb hby at_94) (by decide) (by decide) (XS.istore X625.here hx rfl (hb hby at_98) rfl (l' := #[iv p1, iv p2, iv 1, iv 1, rv b467, iv 0, iv 1, iv 1, iv 0, iv 1, iv 1]) rfl (XS.iload X625.here hx rfl (hb hby at_100) rfl kz))) ?_
        show Goes p e below (T625.setTop (mkF m 102 #[iv p1, iv p2, iv 1, iv 1, rv b467, iv 0, iv 1, iv 1, iv 0, iv 1, iv 1] [(.int 1)])) _
        refine Goes.by (fun _ kz => XS.ifNo X625.here hx rfl (hb hby at_102) rfl ((if0 _ _).trans (feq (by decide : ¬ ((1 : Int32) = (0 : Int32)))).1) (XS.iload X625.here hx rfl (hb hby at_105) rfl (XS.iloadN X625.here hx rfl (hb hby at_107) rfl kz))) ?_
        show Goes p e below (T625.setTop (mkF m 108 #[iv p1, iv p2, iv 1, iv 1, rv b467, iv 0, iv 1, iv 1, iv 0, iv 1, iv 1] [(.int 1), (.int 1)])) _
        refine Goes.by (fun _ kz => XS.icmpNo X625.here hx rfl (hb hby at_108) rfl (teq (by decide : (1 : Int32) = (1 : Int32))).2 (XS.iconst X625.here hx rfl (hb hby at_111) (XS.goto X625.here hx rfl (pc0 := 112) (pc' := 116) rfl (hb hby at_112) (by decide) (by decide) kz))) ?_
        show Goes p e below (T625.setTop (mkF m 116 #[iv p1, iv p2, iv 1, iv 1, rv b467, iv 0, iv 1, iv 1, iv 0, iv 1, iv 1] [(.int 1)])) _
        refine Goes.by (fun _ kz => XS.istore X625.here hx rfl (hb hby at_116) rfl (l' := #[iv p1, iv p2, iv 1, iv 1, rv b467, iv 0, iv 1, iv 1, iv 0, iv 1, iv 1]) rfl (XS.iload X625.here hx rfl (hb hby at_118) rfl (XS.ifNo X625.here hx rfl (hb hby at_120) rfl ((if0 _ _).trans (feq (by decide : ¬ ((1 : Int32) = (0 : Int32)))).1) kz))) ?_
        show Goes p e below (T625.setTop (mkF m 123 #[iv p1, iv p2, iv 1, iv 1, rv b467, iv 0, iv 1, iv 1, iv 0, iv 1, iv 1] [])) _
        refine Goes.by (fun _ kz => XS.iload X625.here hx rfl (hb hby at_123) rfl (XS.iloadN X625.here hx rfl (hb hby at_125) rfl (XS.iloadN X625.here hx rfl (hb hby at_126) rfl kz))) ?_
        show Goes p e below (T625.setTop (mkF m 127 #[iv p1, iv p2, iv 1, iv 1, rv b467, iv 0, iv 1, iv 1, iv 0, iv 1, iv 1] [(.int 1), (.int 1), (.int 0)])) _
        refine Goes.by (fun _ kz => XS.icmpYes X625.here hx rfl (pc0 := 127) (pc' := 134) rfl (hb hby at_127) rfl (teq (by decide : (1 : Int32) = (1 : Int32))).1 (by decide) (by decide) (XS.iconst X625.here hx rfl (hb hby at_134) (XS.icmpNo X625.here hx rfl (hb hby at_135) rfl (teq (by decide : (0 : Int32) = (0 : Int32))).2 kz))) ?_
        show Goes p e below (T625.setTop (mkF m 138 #[iv p1, iv p2, iv 1, iv 1, rv b467, iv 0, iv 1, iv 1, iv 0, iv 1, iv 1] [])) _
        refine Goes.by (fun _ kz => XS.iconst X625.here hx rfl (hb hby at_138) (XS.goto X625.here hx rfl (pc0 := 139) (pc' := 143) rfl (hb hby at_139) (by decide) (by decide) (XS.istore X625.here hx rfl (hb hby at_143) rfl (l' := #[iv p1, iv p2, iv 1, iv 1, rv b467, iv 0, iv 1, iv 1, iv 0, iv 1, iv 1]) rfl kz))) ?_
        show Goes p e below (T625.setTop (mkF m 145 #[iv p1, iv p2, iv 1, iv 1, rv b467, iv 0, iv 1, iv 1, iv 0, iv 1, iv 1] [])) _
        refine Goes.by (fun _ kz => XS.iload X625.here hx rfl (hb hby at_145) rfl (XS.ifNo X625.here hx rfl (hb hby at_147) rfl ((if0 _ _).trans (feq (by decide : ¬ ((1 : Int32) = (0 : Int32)))).1) (XS.iload X625.here hx rfl (hb hby at_150) rfl kz))) ?_
        show Goes p e below (T625.setTop (mkF m 152 #[iv p1, iv p2, iv 1, iv 1, rv b467, iv 0, iv 1, iv 1, iv 0, iv 1, iv 1] [(.int 1)])) _
        refine Goes.by (fun _ kz => XS.iloadN X625.here hx rfl (hb hby at_152) rfl (XS.icmpNo X625.here hx rfl (hb hby at_153) rfl (teq (by decide : (1 : Int32) = (1 : Int32))).2 (XS.iconst X625.here hx rfl (hb hby at_156) kz))) ?_
        show Goes p e below (T625.setTop (mkF m 157 #[iv p1, iv p2, iv 1, iv 1, rv b467, iv 0, iv 1, iv 1, iv 0, iv 1, iv 1] [(.int 1)])) _
        refine Goes.by (fun _ kz => XS.goto X625.here hx rfl (pc0 := 157) (pc' := 161) rfl (hb hby at_157) (by decide) (by decide) (XS.istore X625.here hx rfl (hb hby at_161) rfl (l' := #[iv p1, iv p2, iv 1, iv 1, rv b467, iv 0, iv 1, iv 1, iv 0, iv 1, iv 1]) rfl (XS.iload X625.here hx rfl (hb hby at_163) rfl kz))) ?_
        show Goes p e below (T625.setTop (mkF m 165 #[iv p1, iv p2, iv 1, iv 1, rv b467, iv 0, iv 1, iv 1, iv 0, iv 1, iv 1] [(.int 1)])) _
        obtain ⟨fs, hr, hrun, hended, hW, hsame⟩ := X625.leave (v := some (.int 1)) (fun h => by rw [Bd.returns] at h; cases h)
        exact ⟨_, _, retN X625 hx (t := .boolean) Bd.returns (by simp) (hb hby at_165) hr, hrun, hended, _, _, rfl, ⟨rfl, N625⟩, ⟨_, rfl⟩, hW, hsame.mono (by decide) (by decide)⟩
set_option maxRecDepth 65536 in
set_option maxHeartbeats 40000000 in
theorem comes_1 {Post : Tables → Env → Array Value → State → Outcome → State → Prop} (hpost : ∀ tb e args s v u, (limb_1_1.after args s (.returned v) u = true ∧ limb_1_2.after args s (.returned v) u = true ∧ True) → FrameEnd s (.returned v) u (Jvm.fieldLocs frame_1_writes args s ++ Jvm.arrayLocs frame_1_arrays args s ++ Jvm.staticLocs frame_1_statics s) 16 128 → Post tb e args s (.returned v) u) :
    ArmFor flags0 classFile x code maxLocals ret World_1 tables_1 room_1 Calls_1 rest_1 Pre_1 Post := by
  intro l hfl _ _ p e ha hc hk s m args below hf hA hF happ hP
  obtain ⟨hcalls, hrest, hpre⟩ := hP
  obtain ⟨-, -, -, hnamed, -, -, -, hat⟩ := (Spec.applies_iff hf).mp happ
  obtain ⟨hg, hn⟩ := and_e (Cond.before_iff.mp (show (Jvm.Cond.and given_1 narrow_1).before args s = true from hpre))
  obtain ⟨a1, b1⟩ := and_e hg
  obtain ⟨a2, b2⟩ := and_e b1
  obtain ⟨w0, w1, rfl⟩ : ∃ w0 w1 : Value, args = #[w0, w1] := by
    have hs : args.size = 2 := by simpa [Cond.value, given_1] using a1
    obtain ⟨L⟩ := args
    match L, hs with
    | [w0, w1], _ => exact ⟨w0, w1, rfl⟩
  have hw := fun d (hd : d ∈ tables_1) => atoms_spec (ws := Jvm.Cond.code x code maxLocals ret :: tables_1) hat d (List.mem_cons_of_mem _ hd)
  obtain ⟨i0, ei0⟩ := is_v a2
  obtain rfl : w0 = (.int i0) := Option.some.inj ei0
  obtain ⟨i1, ei1⟩ := is_v b2
  obtain rfl : w1 = (.int i1) := Option.some.inj ei1
  obtain ⟨cA1, kA1, mA, ma1, ma2, ma3⟩ := (show Jvm.D.MirrorMade s "java/util/ArrayList" from hcalls.1)
  obtain ⟨cL1, kL1, mL, ml1, ml2, ml3⟩ := (show Jvm.D.MirrorMade s "java/util/Collections$UnmodifiableList" from hcalls.2.1)
  obtain ⟨cR1, kR1, mR, mr1, mr2, mr3⟩ := (show Jvm.D.MirrorMade s "java/util/Collections$UnmodifiableRandomAccessList" from hcalls.2.2.1)
  obtain ⟨hsets, hown0⟩ := atoms_of _ (rest_1_c_eq ▸ (show rest_1_c.before _ s = true from hrest))
  have hs1 := Cond.before_iff.mp (hsets _ (List.mem_of_getElem? (i := 7) rfl))
  obtain ⟨q1, ev1⟩ := exa_v hs1
  have S1 := Sta.start ev1 (Or.inr ⟨(hw _ (List.mem_of_getElem? (i := 11) rfl)), hsets _ (List.mem_of_getElem? (i := 2) rfl)⟩)
  have hs2 := Cond.before_iff.mp (hsets _ (List.mem_of_getElem? (i := 11) rfl))
  obtain ⟨q2, ev2⟩ := exa_v hs2
  have S2 := Sta.start ev2 (Or.inl (hsets _ (List.mem_of_getElem? (i := 10) rfl)))
  obtain ⟨n, o, h1, h2, h3, _, L, rfl, ⟨rfl, N⟩, hq⟩ := rm0 l s _ hw tables_1 s.heap s.heap.size (Nat.le_refl _) i0 i1   mA mL mR q1 q2 ⟨cA1, kA1, ma1, ma2, ma3.1⟩ ⟨cL1, kL1, ml1, ml2, ml3.1⟩ ⟨cR1, kR1, mr1, mr2, mr3.1⟩ S1 S2 p e ha hc hk s m _ below hf ((Spec.applies_iff_loose hf).mp happ).1 ⟨rfl, State.Warmed39.refl s, rfl⟩ trivial
  refine ⟨n, _, h1, h2, h3, hpost _ _ _ _ _ _ ⟨Cond.after_iff.mpr rfl, Cond.after_iff.mpr (eq_i res_at (Term.int_eval (1)) rfl), trivial⟩ ⟨hq.1, hq.2.1, (hq.2.2.sift fun y hy => Or.inr (N y hy)).mono (by decide) (by decide)⟩⟩
theorem main_1_1 : Claimed_1_1 := comes_1 fun _ _ _ _ _ _ h hF => ⟨h.1, hF⟩
theorem main_1_2 : Claimed_1_2 := comes_1 fun _ _ _ _ _ _ h hF => ⟨h.2.1, hF⟩
end Jvm.Pilot.@@N@@
namespace Jvm.Pilot.@@N@@
open Jvm Jvm.ClassFile Sem Op Lib Jvm.Free Jvm.Stand Jvm.Pilot.@@N@@.Jvm.D
/-! MADE BY PROGRAM (witnessworld.py) out of the Statement's table words and the real class files: 28 classes; the members and pool entries that the words name. The judged class is class 1, her method 1. -/
namespace start1
open Jvm.ClassFile
def u (s : String) : CpInfo := .utf8 (stringToUtf16 s)
/-- a pool by its gaps: so many unusable entries, then the entry; so many at the end -/
def gap : Nat → List CpInfo → List CpInfo
  | 0, r => r
  | n + 1, r => .unusable :: gap n r
def poolList (es : List (Nat × CpInfo)) (last : Nat) : List CpInfo := es.foldr (fun e r => gap e.1 (e.2 :: r)) (gap last [])
def pool (es : List (Nat × CpInfo)) (last : Nat) : Array CpInfo := ⟨poolList es last⟩
def fileOf (pool : Array CpInfo) (this : Nat) (attrs : Array Attribute := #[]) (ms : Array MethodInfo := #[]) (fl : Nat := 33) (sup : Nat := 0) (ifs : Array Nat := #[]) (fds : Array FieldInfo := #[]) : ClassFile where
  minorVersion := 0
  majorVersion := 65
  constantPool := pool
  accessFlags := fl
  thisClass := this
  superClass := sup
  interfaces := ifs
  fields := fds
  methods := ms
  attributes := attrs
def plain (name : String) (sup : Option ClassId) : Class where
  name := name
  kind := .ordinary
  loader := none
  accessFlags := 33
  super := sup
  interfaces := #[]
  cf := none
  fields := #[]
  methods := #[]
  instanceTypes := #[]
  staticTypes := #[]
  resolved := #[]
  callSites := []
  init := .initialized
  statics := none
  mirror := none

def pool0 : Array CpInfo := pool [(5, u "<init>"), (0, u "()V"), (1, .class_ 10), (1, u "java/lang/Object"), (0, u "getClass"), (0, u "()Ljava/lang/Class;")] 111

def k0c0 : Code := { maxStack := 0, maxLocals := 1, code := object_method_1_code, exceptionTable := #[], attributes := #[] }
def k0m0 : Method := { name := "<init>", desc := "()V", sig := { parameters := [], returnType := none }, accessFlags := 1, code := some k0c0 }
def k0m1 : Method := { name := "getClass", desc := "()Ljava/lang/Class;", sig := { parameters := [], returnType := some (.object "java/lang/Class") }, accessFlags := 273, code := none }
/-- java/lang/Object -/
def k0 : Class := { plain "java/lang/Object" none with
  accessFlags := 33
  interfaces := #[]
  cf := some (fileOf pool0 8 #[] #[{ accessFlags := 1, nameIndex := 5, descriptorIndex := 6, attributes := #[] }, { accessFlags := 273, nameIndex := 11, descriptorIndex := 12, attributes := #[] }] 33 0 #[] #[])
  fields := #[]
  methods := #[k0m0, k0m1]
  instanceTypes := #[]
  staticTypes := #[]
  resolved := Array.replicate 124 none
  statics := none }

def pool1 : Array CpInfo := pool [(2, .class_ 4), (0, .nameAndType 5 6), (0, u "java/lang/Object"), (0, u "<init>"), (0, u "()V"), (0, .class_ 8), (0, u "com/example/entail/entail/model/EntrySettings"), (0, .methodref 7 3), (0, .methodref 7 11), (0, .nameAndType 12 13), (0, u "blocks"), (0, u "()Z"), (0, .methodref 7 15), (0, .nameAndType 16 17), (0, u "setBlocks"), (0, u "(Z)Z"), (0, .class_ 19), (0, u "com/example/entail/entail/model/EntrySettingsSetBlocksPinLaw"), (2, u "law"), (0, u "(II)Z")] 3

def k1m0 : Method := { name := "<init>", desc := "()V", sig := { parameters := [], returnType := none }, accessFlags := 1, code := none }
def k1c1 : Code := { maxStack := 3, maxLocals := 11, code := code, exceptionTable := #[], attributes := #[] }
def k1m1 : Method := { name := "law", desc := "(II)Z", sig := { parameters := [.int, .int], returnType := some .boolean }, accessFlags := 9, code := some k1c1 }
/-- com/example/entail/entail/model/EntrySettingsSetBlocksPinLaw -/
def k1 : Class := { plain "com/example/entail/entail/model/EntrySettingsSetBlocksPinLaw" (some 0) with
  accessFlags := 49
  interfaces := #[]
  cf := some (fileOf pool1 18 #[] #[{ accessFlags := 1, nameIndex := 5, descriptorIndex := 6, attributes := #[] }, { accessFlags := 9, nameIndex := 22, descriptorIndex := 23, attributes := #[] }] 49 2 #[] #[])
  fields := #[]
  methods := #[k1m0, k1m1]
  instanceTypes := #[]
  staticTypes := #[]
  resolved := Array.replicate 27 none
  statics := none }

def pool2 : Array CpInfo := pool [(1, .methodref 2 3), (0, .class_ 4), (0, .nameAndType 5 6), (0, u "java/lang/Object"), (0, u "<init>"), (0, u "()V"), (0, .class_ 8), (0, u "java/util/ArrayList"), (0, .methodref 7 3), (0, .fieldref 11 12), (0, .class_ 13), (0, .nameAndType 14 15), (0, u "com/example/entail/entail/model/EntrySettings"), (0, u "rules"), (0, u "Ljava/util/List;"), (0, .methodref 17 18), (0, .class_ 19), (0, .nameAndType 20 21), (0, u "java/util/Collections"), (0, u "unmodifiableList"), (0, u "(Ljava/util/List;)Ljava/util/List;"), (0, .fieldref 11 23), (0, .nameAndType 24 15), (0, u "rulesView"), (0, .interfaceMethodref 26 27), (0, .class_ 28), (0, .nameAndType 29 30), (0, u "java/util/Set"), (0, u "of"), (0, u "()Ljava/util/Set;"), (0, .fieldref 11 32), (0, .nameAndType 33 34), (0, u "blockedTrusteesView"), (0, u "Ljava/util/Set;"), (0, .fieldref 11 36), (0, .nameAndType 37 38), (0, u "blocks"), (0, u "Z"), (11, u "blockedTrustees"), (12, u "NONE"), (0, u "Lcom/example/entail/entail/model/EntrySettings;"), (7, u "()Z"), (5, u "setBlocks"), (0, u "(Z)Z")] 8

def k2c0 : Code := { maxStack := 3, maxLocals := 1, code := prog_7_method_1_code, exceptionTable := #[], attributes := #[] }
def k2m0 : Method := { name := "<init>", desc := "()V", sig := { parameters := [], returnType := none }, accessFlags := 0, code := some k2c0 }
def k2c1 : Code := { maxStack := 1, maxLocals := 1, code := prog_7_method_3_code, exceptionTable := #[], attributes := #[] }
def k2m1 : Method := { name := "blocks", desc := "()Z", sig := { parameters := [], returnType := some .boolean }, accessFlags := 1, code := some k2c1 }
def k2c2 : Code := { maxStack := 2, maxLocals := 3, code := prog_7_method_7_code, exceptionTable := #[], attributes := #[] }
def k2m2 : Method := { name := "setBlocks", desc := "(Z)Z", sig := { parameters := [.boolean], returnType := some .boolean }, accessFlags := 0, code := some k2c2 }
/-- com/example/entail/entail/model/EntrySettings -/
def k2 : Class := { plain "com/example/entail/entail/model/EntrySettings" (some 0) with
  accessFlags := 33
  interfaces := #[]
  cf := some (fileOf pool2 11 #[] #[{ accessFlags := 0, nameIndex := 5, descriptorIndex := 6, attributes := #[] }, { accessFlags := 1, nameIndex := 37, descriptorIndex := 72, attributes := #[] }, { accessFlags := 0, nameIndex := 78, descriptorIndex := 79, attributes := #[] }] 33 2 #[] #[{ accessFlags := 25, nameIndex := 63, descriptorIndex := 64, attributes := #[] }, { accessFlags := 18, nameIndex := 14, descriptorIndex := 15, attributes := #[] }, { accessFlags := 18, nameIndex := 24, descriptorIndex := 15, attributes := #[] }, { accessFlags := 2, nameIndex := 37, descriptorIndex := 38, attributes := #[] }, { accessFlags := 2, nameIndex := 50, descriptorIndex := 34, attributes := #[] }, { accessFlags := 2, nameIndex := 33, descriptorIndex := 34, attributes := #[] }])
  fields := #[{ name := "NONE", type := (.object "com/example/entail/entail/model/EntrySettings"), accessFlags := 25, slot := 0, constantValue := 0 }, { name := "rules", type := (.object "java/util/List"), accessFlags := 18, slot := 0, constantValue := 0 }, { name := "rulesView", type := (.object "java/util/List"), accessFlags := 18, slot := 1, constantValue := 0 }, { name := "blocks", type := .boolean, accessFlags := 2, slot := 2, constantValue := 0 }, { name := "blockedTrustees", type := (.object "java/util/Set"), accessFlags := 2, slot := 3, constantValue := 0 }, { name := "blockedTrusteesView", type := (.object "java/util/Set"), accessFlags := 2, slot := 4, constantValue := 0 }]
  methods := #[k2m0, k2m1, k2m2]
  instanceTypes := #[(.object "java/util/List"), (.object "java/util/List"), .boolean, (.object "java/util/Set"), (.object "java/util/Set")]
  staticTypes := #[(.object "com/example/entail/entail/model/EntrySettings")]
  resolved := Array.replicate 88 none
  statics := none }

def pool3 : Array CpInfo := pool [(8, .class_ 10), (1, u "java/lang/Iterable"), (24, .class_ 36), (0, u "java/lang/Object")] 25

/-- java/lang/Iterable -/
def k3 : Class := { plain "java/lang/Iterable" (some 0) with
  accessFlags := 1537
  interfaces := #[]
  cf := some (fileOf pool3 8 #[] #[] 1537 35 #[] #[])
  fields := #[]
  methods := #[]
  instanceTypes := #[]
  staticTypes := #[]
  resolved := Array.replicate 62 none
  statics := none }

def pool4 : Array CpInfo := pool [(10, .class_ 12), (1, u "java/util/Collection"), (47, .class_ 61), (0, u "java/lang/Object"), (0, .class_ 63), (0, u "java/lang/Iterable")] 51

/-- java/util/Collection -/
def k4 : Class := { plain "java/util/Collection" (some 0) with
  accessFlags := 1537
  interfaces := #[3]
  cf := some (fileOf pool4 10 #[] #[] 1537 60 #[62] #[])
  fields := #[]
  methods := #[]
  instanceTypes := #[]
  staticTypes := #[]
  resolved := Array.replicate 115 none
  statics := none }

def pool5 : Array CpInfo := pool [(1, .methodref 2 3), (0, .class_ 4), (0, .nameAndType 5 6), (0, u "java/lang/Object"), (0, u "<init>"), (0, u "()V"), (1, .class_ 10), (1, u "java/util/AbstractCollection"), (66, .class_ 78), (0, u "java/util/Collection")] 81

def k5c0 : Code := { maxStack := 1, maxLocals := 1, code := jdk_22_method_1_code, exceptionTable := #[], attributes := #[] }
def k5m0 : Method := { name := "<init>", desc := "()V", sig := { parameters := [], returnType := none }, accessFlags := 4, code := some k5c0 }
/-- java/util/AbstractCollection -/
def k5 : Class := { plain "java/util/AbstractCollection" (some 0) with
  accessFlags := 1057
  interfaces := #[4]
  cf := some (fileOf pool5 8 #[] #[{ accessFlags := 4, nameIndex := 5, descriptorIndex := 6, attributes := #[] }] 1057 2 #[77] #[])
  fields := #[]
  methods := #[k5m0]
  instanceTypes := #[]
  staticTypes := #[]
  resolved := Array.replicate 160 none
  statics := none }

def pool6 : Array CpInfo := pool [(8, .class_ 10), (1, u "java/util/SequencedCollection"), (15, .class_ 27), (0, u "java/lang/Object"), (0, .class_ 29), (0, u "java/util/Collection")] 27

/-- java/util/SequencedCollection -/
def k6 : Class := { plain "java/util/SequencedCollection" (some 0) with
  accessFlags := 1537
  interfaces := #[4]
  cf := some (fileOf pool6 8 #[] #[] 1537 26 #[28] #[])
  fields := #[]
  methods := #[]
  instanceTypes := #[]
  staticTypes := #[]
  resolved := Array.replicate 57 none
  statics := none }

def pool7 : Array CpInfo := pool [(8, .class_ 10), (1, u "java/util/List"), (92, .class_ 104), (0, u "java/lang/Object"), (15, .class_ 121), (0, u "java/util/SequencedCollection")] 129

/-- java/util/List -/
def k7 : Class := { plain "java/util/List" (some 0) with
  accessFlags := 1537
  interfaces := #[6]
  cf := some (fileOf pool7 8 #[] #[] 1537 103 #[120] #[])
  fields := #[]
  methods := #[]
  instanceTypes := #[]
  staticTypes := #[]
  resolved := Array.replicate 251 none
  statics := none }

def pool8 : Array CpInfo := pool [(1, .methodref 2 3), (0, .class_ 4), (0, .nameAndType 5 6), (0, u "java/util/AbstractCollection"), (0, u "<init>"), (0, u "()V"), (0, .fieldref 8 9), (0, .class_ 10), (0, .nameAndType 11 12), (0, u "java/util/AbstractList"), (0, u "modCount"), (0, u "I"), (64, .class_ 78), (0, u "java/util/AbstractList$Itr"), (3, .class_ 83), (0, u "java/util/AbstractList$ListItr"), (9, .class_ 94), (0, u "java/util/AbstractList$RandomAccessSubList"), (3, .class_ 99), (0, u "java/util/AbstractList$SubList"), (33, .class_ 134), (0, u "java/util/List"), (73, .class_ 209), (0, u "java/util/AbstractList$SubList$1"), (0, .class_ 211), (0, u "java/util/AbstractList$RandomAccessSpliterator")] 6

def k8c0 : Code := { maxStack := 2, maxLocals := 1, code := jdk_39_method_1_code, exceptionTable := #[], attributes := #[] }
def k8m0 : Method := { name := "<init>", desc := "()V", sig := { parameters := [], returnType := none }, accessFlags := 4, code := some k8c0 }
/-- java/util/AbstractList -/
def k8 : Class := { plain "java/util/AbstractList" (some 5) with
  accessFlags := 1057
  interfaces := #[7]
  cf := some (fileOf pool8 8 #[.nestMembers #[93, 98, 208, 210, 82, 77]] #[{ accessFlags := 4, nameIndex := 5, descriptorIndex := 6, attributes := #[] }] 1057 2 #[133] #[{ accessFlags := 132, nameIndex := 11, descriptorIndex := 12, attributes := #[] }])
  fields := #[{ name := "modCount", type := .int, accessFlags := 132, slot := 0, constantValue := 0 }]
  methods := #[k8m0]
  instanceTypes := #[.int]
  staticTypes := #[]
  resolved := Array.replicate 218 none
  statics := none }

def pool9 : Array CpInfo := pool [(1, .class_ 2), (0, u "java/util/RandomAccess"), (0, .class_ 4), (0, u "java/lang/Object")] 2

/-- java/util/RandomAccess -/
def k9 : Class := { plain "java/util/RandomAccess" (some 0) with
  accessFlags := 1537
  interfaces := #[]
  cf := some (fileOf pool9 1 #[] #[] 1537 3 #[] #[])
  fields := #[]
  methods := #[]
  instanceTypes := #[]
  staticTypes := #[]
  resolved := Array.replicate 7 none
  statics := none }

def pool10 : Array CpInfo := pool [(1, .class_ 2), (0, u "java/lang/Cloneable"), (0, .class_ 4), (0, u "java/lang/Object")] 2

/-- java/lang/Cloneable -/
def k10 : Class := { plain "java/lang/Cloneable" (some 0) with
  accessFlags := 1537
  interfaces := #[]
  cf := some (fileOf pool10 1 #[] #[] 1537 3 #[] #[])
  fields := #[]
  methods := #[]
  instanceTypes := #[]
  staticTypes := #[]
  resolved := Array.replicate 7 none
  statics := none }

def pool11 : Array CpInfo := pool [(1, .class_ 2), (0, u "java/io/Serializable"), (0, .class_ 4), (0, u "java/lang/Object")] 2

/-- java/io/Serializable -/
def k11 : Class := { plain "java/io/Serializable" (some 0) with
  accessFlags := 1537
  interfaces := #[]
  cf := some (fileOf pool11 1 #[] #[] 1537 3 #[] #[])
  fields := #[]
  methods := #[]
  instanceTypes := #[]
  staticTypes := #[]
  resolved := Array.replicate 7 none
  statics := none }

def pool12 : Array CpInfo := pool [(1, .methodref 2 3), (0, .class_ 4), (0, .nameAndType 5 6), (0, u "java/util/AbstractList"), (0, u "<init>"), (0, u "()V"), (2, .fieldref 10 11), (0, .class_ 12), (0, .nameAndType 13 14), (0, u "java/util/ArrayList"), (0, u "elementData"), (0, u "[Ljava/lang/Object;"), (2, u "EMPTY_ELEMENTDATA"), (21, .fieldref 10 40), (0, .nameAndType 41 14), (0, u "DEFAULTCAPACITY_EMPTY_ELEMENTDATA"), (8, u "size"), (0, u "I"), (96, .class_ 149), (0, u "java/util/List"), (112, .class_ 263), (0, u "java/util/ArrayList$ListItr"), (3, .class_ 268), (0, u "java/util/ArrayList$Itr"), (7, .class_ 277), (0, u "java/util/ArrayList$SubList"), (12, .class_ 291), (0, u "java/util/ArrayList$ArrayListSpliterator"), (37, .class_ 330), (0, u "java/util/RandomAccess"), (0, .class_ 332), (0, u "java/lang/Cloneable"), (0, .class_ 334), (0, u "java/io/Serializable"), (0, u "serialVersionUID"), (0, u "J"), (3, u "DEFAULT_CAPACITY"), (159, .class_ 501), (0, u "java/util/ArrayList$SubList$2"), (0, .class_ 503), (0, u "java/util/ArrayList$SubList$1")] 5

def k12c0 : Code := { maxStack := 2, maxLocals := 1, code := jdk_38_method_2_code, exceptionTable := #[], attributes := #[] }
def k12m0 : Method := { name := "<init>", desc := "()V", sig := { parameters := [], returnType := none }, accessFlags := 1, code := some k12c0 }
/-- java/util/ArrayList -/
def k12 : Class := { plain "java/util/ArrayList" (some 8) with
  accessFlags := 33
  interfaces := #[7, 9, 10, 11]
  cf := some (fileOf pool12 10 #[.nestMembers #[290, 276, 500, 502, 262, 267]] #[{ accessFlags := 1, nameIndex := 5, descriptorIndex := 6, attributes := #[] }] 33 2 #[148, 329, 331, 333] #[{ accessFlags := 26, nameIndex := 335, descriptorIndex := 336, attributes := #[] }, { accessFlags := 26, nameIndex := 340, descriptorIndex := 51, attributes := #[] }, { accessFlags := 26, nameIndex := 17, descriptorIndex := 14, attributes := #[] }, { accessFlags := 26, nameIndex := 41, descriptorIndex := 14, attributes := #[] }, { accessFlags := 128, nameIndex := 13, descriptorIndex := 14, attributes := #[] }, { accessFlags := 2, nameIndex := 50, descriptorIndex := 51, attributes := #[] }])
  fields := #[{ name := "serialVersionUID", type := .long, accessFlags := 26, slot := 0, constantValue := 0 }, { name := "DEFAULT_CAPACITY", type := .int, accessFlags := 26, slot := 1, constantValue := 0 }, { name := "EMPTY_ELEMENTDATA", type := (.array (.object "java/lang/Object")), accessFlags := 26, slot := 2, constantValue := 0 }, { name := "DEFAULTCAPACITY_EMPTY_ELEMENTDATA", type := (.array (.object "java/lang/Object")), accessFlags := 26, slot := 3, constantValue := 0 }, { name := "elementData", type := (.array (.object "java/lang/Object")), accessFlags := 128, slot := 1, constantValue := 0 }, { name := "size", type := .int, accessFlags := 2, slot := 2, constantValue := 0 }]
  methods := #[k12m0]
  instanceTypes := #[.int, (.array (.object "java/lang/Object")), .int]
  staticTypes := #[.long, .int, (.array (.object "java/lang/Object")), (.array (.object "java/lang/Object"))]
  resolved := Array.replicate 509 none
  mirror := some 2
  statics := some 0 }

def pool13 : Array CpInfo := pool [(2, .class_ 4), (1, u "java/lang/Object"), (0, u "<init>"), (0, u "()V"), (1, .class_ 10), (1, u "java/util/List"), (2, .class_ 14), (0, u "java/util/RandomAccess"), (4, .class_ 20), (0, u "java/util/Collections"), (63, u "r"), (0, u "Ljava/util/Random;"), (67, u "(Ljava/util/List;)V"), (9, .nameAndType 164 165), (0, u "getClass"), (0, u "()Ljava/lang/Class;"), (0, .class_ 167), (0, u "java/util/Collections$UnmodifiableCollection"), (6, .class_ 175), (0, u "java/util/Collections$UnmodifiableSequencedCollection"), (6, .class_ 183), (0, u "java/util/Collections$UnmodifiableSet"), (6, .class_ 191), (0, u "java/util/Collections$UnmodifiableSequencedSet"), (6, .class_ 199), (0, u "java/util/Collections$UnmodifiableSortedSet"), (6, .class_ 207), (0, u "java/util/Collections$UnmodifiableNavigableSet"), (3, .interfaceMethodref 8 163), (0, .class_ 213), (0, u "java/util/Collections$UnmodifiableList"), (0, .interfaceMethodref 8 163), (0, .class_ 216), (0, u "java/util/Collections$UnmodifiableRandomAccessList"), (0, .methodref 215 218), (0, .nameAndType 5 153), (4, .class_ 224), (0, u "java/util/Collections$UnmodifiableMap"), (6, .class_ 232), (0, u "java/util/Collections$UnmodifiableSequencedMap"), (4, .class_ 238), (0, u "java/util/Collections$UnmodifiableSortedMap"), (6, .class_ 246), (0, u "java/util/Collections$UnmodifiableNavigableMap"), (3, .class_ 251), (0, u "java/util/Collections$SynchronizedCollection"), (4, .class_ 257), (0, u "java/util/Collections$SynchronizedSet"), (4, .class_ 263), (0, u "java/util/Collections$SynchronizedSortedSet"), (1, .class_ 266), (0, u "java/util/Collections$SynchronizedNavigableSet"), (1, .class_ 269), (0, u "java/util/Collections$SynchronizedRandomAccessList"), (1, .class_ 272), (0, u "java/util/Collections$SynchronizedList"), (5, .class_ 279), (0, u "java/util/Collections$SynchronizedMap"), (1, .class_ 282), (0, u "java/util/Collections$SynchronizedSortedMap"), (1, .class_ 285), (0, u "java/util/Collections$SynchronizedNavigableMap"), (1, .class_ 288), (0, u "java/util/Collections$CheckedCollection"), (11, .class_ 301), (0, u "java/util/Collections$CheckedQueue"), (3, .class_ 306), (0, u "java/util/Collections$CheckedSet"), (3, .class_ 311), (0, u "java/util/Collections$CheckedSortedSet"), (3, .class_ 316), (0, u "java/util/Collections$CheckedNavigableSet"), (3, .class_ 321), (0, u "java/util/Collections$CheckedRandomAccessList"), (3, .class_ 326), (0, u "java/util/Collections$CheckedList"), (1, .class_ 329), (0, u "java/util/Collections$CheckedMap"), (3, .class_ 334), (0, u "java/util/Collections$CheckedSortedMap"), (3, .class_ 339), (0, u "java/util/Collections$CheckedNavigableMap"), (4, .class_ 346), (1, u "java/util/Collections$EmptyIterator"), (3, .class_ 352), (1, u "java/util/Collections$EmptyListIterator"), (2, .class_ 357), (1, u "java/util/Collections$EmptyEnumeration"), (4, u "EMPTY_SET"), (0, u "Ljava/util/Set;"), (6, u "EMPTY_LIST"), (0, u "Ljava/util/List;"), (2, u "EMPTY_MAP"), (0, u "Ljava/util/Map;"), (4, .class_ 381), (0, u "java/util/Collections$SingletonSet"), (2, .class_ 385), (0, u "java/util/Collections$1"), (1, .class_ 388), (0, u "java/util/Collections$2"), (1, .class_ 391), (0, u "java/util/Collections$SingletonList"), (1, .class_ 394), (0, u "java/util/Collections$SingletonMap"), (22, .class_ 418), (0, u "java/util/Collections$CopiesList"), (4, .class_ 425), (1, u "java/util/Collections$ReverseComparator"), (8, .class_ 435), (0, u "java/util/Collections$ReverseComparator2"), (6, .class_ 443), (0, u "java/util/Collections$3"), (25, .class_ 470), (0, u "java/util/Collections$SetFromMap"), (2, .class_ 474), (0, u "java/util/Collections$SequencedSetFromMap"), (3, .class_ 479), (0, u "java/util/Collections$AsLIFOQueue"), (11, .class_ 492), (0, u "java/util/Collections$EmptySet"), (1, .class_ 495), (0, u "java/util/Collections$EmptyList"), (1, .class_ 498), (0, u "java/util/Collections$EmptyMap"), (1, u "BINARYSEARCH_THRESHOLD"), (0, u "I"), (2, u "REVERSE_THRESHOLD"), (1, u "SHUFFLE_THRESHOLD"), (1, u "FILL_THRESHOLD"), (1, u "ROTATE_THRESHOLD"), (1, u "COPY_THRESHOLD"), (1, u "REPLACEALL_THRESHOLD"), (1, u "INDEXOFSUBLIST_THRESHOLD"), (129, u "unmodifiableList"), (0, u "(Ljava/util/List;)Ljava/util/List;"), (202, .class_ 851), (0, u "java/util/Collections$CheckedMap$CheckedEntrySet"), (0, .class_ 853), (0, u "java/util/Collections$CheckedMap$CheckedEntrySet$CheckedEntry"), (0, .class_ 855), (0, u "java/util/Collections$CheckedMap$CheckedEntrySet$1"), (0, .class_ 857), (0, u "java/util/Collections$CheckedList$1"), (0, .class_ 859), (0, u "java/util/Collections$CheckedCollection$1"), (0, .class_ 861), (0, u "java/util/Collections$UnmodifiableNavigableMap$EmptyNavigableMap"), (0, .class_ 863), (0, u "java/util/Collections$UnmodifiableMap$UnmodifiableEntrySet"), (0, .class_ 865), (0, u "java/util/Collections$UnmodifiableMap$UnmodifiableEntrySet$UnmodifiableEntry"), (0, .class_ 867), (0, u "java/util/Collections$UnmodifiableMap$UnmodifiableEntrySet$UnmodifiableEntrySetSpliterator"), (0, .class_ 869), (0, u "java/util/Collections$UnmodifiableMap$UnmodifiableEntrySet$1"), (0, .class_ 871), (0, u "java/util/Collections$UnmodifiableList$1"), (0, .class_ 873), (0, u "java/util/Collections$UnmodifiableNavigableSet$EmptyNavigableSet"), (0, .class_ 875), (0, u "java/util/Collections$UnmodifiableCollection$1")] 57

def k13m0 : Method := { name := "<init>", desc := "()V", sig := { parameters := [], returnType := none }, accessFlags := 2, code := none }
def k13c1 : Code := { maxStack := 3, maxLocals := 1, code := jdk_79_method_35_code, exceptionTable := #[], attributes := #[] }
def k13m1 : Method := { name := "unmodifiableList", desc := "(Ljava/util/List;)Ljava/util/List;", sig := { parameters := [(.object "java/util/List")], returnType := some (.object "java/util/List") }, accessFlags := 9, code := some k13c1 }
/-- java/util/Collections -/
def k13 : Class := { plain "java/util/Collections" (some 0) with
  accessFlags := 33
  interfaces := #[]
  cf := some (fileOf pool13 19 #[.nestMembers #[478, 473, 469, 434, 423, 417, 393, 390, 380, 497, 494, 491, 355, 350, 344, 338, 333, 328, 850, 852, 854, 320, 325, 856, 315, 310, 305, 300, 287, 858, 284, 281, 278, 268, 271, 265, 262, 256, 250, 245, 860, 237, 231, 223, 862, 864, 866, 868, 215, 212, 870, 206, 872, 198, 190, 182, 174, 166, 874, 442, 387, 384]] #[{ accessFlags := 2, nameIndex := 5, descriptorIndex := 6, attributes := #[] }, { accessFlags := 9, nameIndex := 646, descriptorIndex := 647, attributes := #[] }] 33 2 #[] #[{ accessFlags := 26, nameIndex := 500, descriptorIndex := 501, attributes := #[] }, { accessFlags := 26, nameIndex := 504, descriptorIndex := 501, attributes := #[] }, { accessFlags := 26, nameIndex := 506, descriptorIndex := 501, attributes := #[] }, { accessFlags := 26, nameIndex := 508, descriptorIndex := 501, attributes := #[] }, { accessFlags := 26, nameIndex := 510, descriptorIndex := 501, attributes := #[] }, { accessFlags := 26, nameIndex := 512, descriptorIndex := 501, attributes := #[] }, { accessFlags := 26, nameIndex := 514, descriptorIndex := 501, attributes := #[] }, { accessFlags := 26, nameIndex := 516, descriptorIndex := 501, attributes := #[] }, { accessFlags := 10, nameIndex := 84, descriptorIndex := 85, attributes := #[] }, { accessFlags := 25, nameIndex := 362, descriptorIndex := 363, attributes := #[] }, { accessFlags := 25, nameIndex := 370, descriptorIndex := 371, attributes := #[] }, { accessFlags := 25, nameIndex := 374, descriptorIndex := 375, attributes := #[] }])
  fields := #[{ name := "BINARYSEARCH_THRESHOLD", type := .int, accessFlags := 26, slot := 0, constantValue := 0 }, { name := "REVERSE_THRESHOLD", type := .int, accessFlags := 26, slot := 1, constantValue := 0 }, { name := "SHUFFLE_THRESHOLD", type := .int, accessFlags := 26, slot := 2, constantValue := 0 }, { name := "FILL_THRESHOLD", type := .int, accessFlags := 26, slot := 3, constantValue := 0 }, { name := "ROTATE_THRESHOLD", type := .int, accessFlags := 26, slot := 4, constantValue := 0 }, { name := "COPY_THRESHOLD", type := .int, accessFlags := 26, slot := 5, constantValue := 0 }, { name := "REPLACEALL_THRESHOLD", type := .int, accessFlags := 26, slot := 6, constantValue := 0 }, { name := "INDEXOFSUBLIST_THRESHOLD", type := .int, accessFlags := 26, slot := 7, constantValue := 0 }, { name := "r", type := (.object "java/util/Random"), accessFlags := 10, slot := 8, constantValue := 0 }, { name := "EMPTY_SET", type := (.object "java/util/Set"), accessFlags := 25, slot := 9, constantValue := 0 }, { name := "EMPTY_LIST", type := (.object "java/util/List"), accessFlags := 25, slot := 10, constantValue := 0 }, { name := "EMPTY_MAP", type := (.object "java/util/Map"), accessFlags := 25, slot := 11, constantValue := 0 }]
  methods := #[k13m0, k13m1]
  instanceTypes := #[]
  staticTypes := #[.int, .int, .int, .int, .int, .int, .int, .int, (.object "java/util/Random"), (.object "java/util/Set"), (.object "java/util/List"), (.object "java/util/Map")]
  resolved := Array.replicate 933 none
  statics := none }

def pool14 : Array CpInfo := pool [(1, .methodref 2 3), (0, .class_ 4), (0, .nameAndType 5 6), (0, u "java/lang/Object"), (0, u "<init>"), (0, u "()V"), (3, .fieldref 11 12), (0, .class_ 13), (0, .nameAndType 14 15), (0, u "java/util/Collections$UnmodifiableCollection"), (0, u "c"), (0, u "Ljava/util/Collection;"), (1, .class_ 19), (1, u "java/util/Collection"), (51, .class_ 72), (0, u "java/io/Serializable"), (0, u "serialVersionUID"), (0, u "J"), (5, u "(Ljava/util/Collection;)V"), (51, .class_ 133), (0, u "java/util/Collections")] 2

def k14c0 : Code := { maxStack := 2, maxLocals := 2, code := jdk_119_method_1_code, exceptionTable := #[], attributes := #[] }
def k14m0 : Method := { name := "<init>", desc := "(Ljava/util/Collection;)V", sig := { parameters := [(.object "java/util/Collection")], returnType := none }, accessFlags := 0, code := some k14c0 }
/-- java/util/Collections$UnmodifiableCollection -/
def k14 : Class := { plain "java/util/Collections$UnmodifiableCollection" (some 0) with
  accessFlags := 32
  interfaces := #[4, 11]
  cf := some (fileOf pool14 11 #[.nestHost 132] #[{ accessFlags := 0, nameIndex := 5, descriptorIndex := 80, attributes := #[] }] 32 2 #[17, 71] #[{ accessFlags := 26, nameIndex := 73, descriptorIndex := 74, attributes := #[] }, { accessFlags := 16, nameIndex := 14, descriptorIndex := 15, attributes := #[] }])
  fields := #[{ name := "serialVersionUID", type := .long, accessFlags := 26, slot := 0, constantValue := 0 }, { name := "c", type := (.object "java/util/Collection"), accessFlags := 16, slot := 0, constantValue := 0 }]
  methods := #[k14m0]
  instanceTypes := #[(.object "java/util/Collection")]
  staticTypes := #[.long]
  resolved := Array.replicate 136 none
  statics := none }

def pool15 : Array CpInfo := pool [(1, .methodref 2 3), (0, .class_ 4), (0, .nameAndType 5 6), (0, u "java/util/Collections$UnmodifiableCollection"), (0, u "<init>"), (0, u "(Ljava/util/Collection;)V"), (0, .fieldref 8 9), (0, .class_ 10), (0, .nameAndType 11 12), (0, u "java/util/Collections$UnmodifiableList"), (0, u "list"), (0, u "Ljava/util/List;"), (1, .class_ 16), (1, u "java/util/List"), (37, u "(Ljava/util/List;)V"), (5, u "serialVersionUID"), (0, u "J"), (59, .class_ 122), (0, u "java/util/Collections")] 4

def k15c0 : Code := { maxStack := 2, maxLocals := 2, code := jdk_120_method_1_code, exceptionTable := #[], attributes := #[] }
def k15m0 : Method := { name := "<init>", desc := "(Ljava/util/List;)V", sig := { parameters := [(.object "java/util/List")], returnType := none }, accessFlags := 0, code := some k15c0 }
/-- java/util/Collections$UnmodifiableList -/
def k15 : Class := { plain "java/util/Collections$UnmodifiableList" (some 14) with
  accessFlags := 32
  interfaces := #[7]
  cf := some (fileOf pool15 8 #[.nestHost 121] #[{ accessFlags := 0, nameIndex := 5, descriptorIndex := 54, attributes := #[] }] 32 2 #[14] #[{ accessFlags := 26, nameIndex := 60, descriptorIndex := 61, attributes := #[] }, { accessFlags := 16, nameIndex := 11, descriptorIndex := 12, attributes := #[] }])
  fields := #[{ name := "serialVersionUID", type := .long, accessFlags := 26, slot := 0, constantValue := 0 }, { name := "list", type := (.object "java/util/List"), accessFlags := 16, slot := 1, constantValue := 0 }]
  methods := #[k15m0]
  instanceTypes := #[(.object "java/util/Collection"), (.object "java/util/List")]
  staticTypes := #[.long]
  resolved := Array.replicate 127 none
  mirror := some 3
  statics := none }

def pool16 : Array CpInfo := pool [(1, .methodref 2 3), (0, .class_ 4), (0, .nameAndType 5 6), (0, u "java/util/Collections$UnmodifiableList"), (0, u "<init>"), (0, u "(Ljava/util/List;)V"), (0, .class_ 8), (0, u "java/util/Collections$UnmodifiableRandomAccessList"), (11, .class_ 21), (0, u "java/util/RandomAccess"), (0, u "serialVersionUID"), (0, u "J"), (23, .class_ 48), (0, u "java/util/Collections")] 3

def k16c0 : Code := { maxStack := 2, maxLocals := 2, code := jdk_121_method_1_code, exceptionTable := #[], attributes := #[] }
def k16m0 : Method := { name := "<init>", desc := "(Ljava/util/List;)V", sig := { parameters := [(.object "java/util/List")], returnType := none }, accessFlags := 0, code := some k16c0 }
/-- java/util/Collections$UnmodifiableRandomAccessList -/
def k16 : Class := { plain "java/util/Collections$UnmodifiableRandomAccessList" (some 15) with
  accessFlags := 32
  interfaces := #[9]
  cf := some (fileOf pool16 7 #[.nestHost 47] #[{ accessFlags := 0, nameIndex := 5, descriptorIndex := 6, attributes := #[] }] 32 2 #[20] #[{ accessFlags := 26, nameIndex := 22, descriptorIndex := 23, attributes := #[] }])
  fields := #[{ name := "serialVersionUID", type := .long, accessFlags := 26, slot := 0, constantValue := 0 }]
  methods := #[k16m0]
  instanceTypes := #[(.object "java/util/Collection"), (.object "java/util/List")]
  staticTypes := #[.long]
  resolved := Array.replicate 52 none
  mirror := some 4
  statics := none }

def pool17 : Array CpInfo := pool [(9, .fieldref 10 11), (0, .class_ 12), (0, .nameAndType 13 14), (0, u "java/util/ImmutableCollections"), (0, u "EMPTY_SET"), (0, u "Ljava/util/ImmutableCollections$SetN;"), (11, .class_ 27), (0, u "java/lang/Object"), (5, .class_ 34), (0, u "java/util/Set"), (1, .class_ 38), (1, u "java/util/Collection"), (4, u "of"), (0, u "()Ljava/util/Set;")] 99

def k17c0 : Code := { maxStack := 1, maxLocals := 0, code := jdk_96_method_17_code, exceptionTable := #[], attributes := #[] }
def k17m0 : Method := { name := "of", desc := "()Ljava/util/Set;", sig := { parameters := [], returnType := some (.object "java/util/Set") }, accessFlags := 9, code := some k17c0 }
/-- java/util/Set -/
def k17 : Class := { plain "java/util/Set" (some 0) with
  accessFlags := 1537
  interfaces := #[4]
  cf := some (fileOf pool17 33 #[] #[{ accessFlags := 9, nameIndex := 43, descriptorIndex := 44, attributes := #[] }] 1537 26 #[36] #[])
  fields := #[]
  methods := #[k17m0]
  instanceTypes := #[]
  staticTypes := #[]
  resolved := Array.replicate 144 none
  statics := none }

def pool18 : Array CpInfo := pool [(2, .class_ 4), (1, u "java/lang/Object"), (0, u "<init>"), (0, u "()V"), (3, .class_ 11), (0, u "java/util/ImmutableCollections$List12"), (0, .class_ 13), (0, u "java/util/ImmutableCollections$ListN"), (3, u "Z"), (29, .class_ 49), (1, u "java/util/ImmutableCollections"), (0, u "$assertionsDisabled"), (5, u "[Ljava/lang/Object;"), (5, u "EMPTY_LIST"), (0, u "Ljava/util/ImmutableCollections$ListN;"), (8, u "EMPTY_LIST_NULLS"), (22, u "SALT32L"), (0, u "J"), (2, u "REVERSE"), (6, u "archivedObjects"), (2, u "EMPTY"), (0, u "Ljava/lang/Object;"), (0, .class_ 112), (0, u "java/util/ImmutableCollections$SetN"), (5, u "EMPTY_SET"), (0, u "Ljava/util/ImmutableCollections$SetN;"), (0, .class_ 121), (0, u "java/util/ImmutableCollections$MapN"), (3, u "EMPTY_MAP"), (0, u "Ljava/util/ImmutableCollections$MapN;"), (4, u "EXPAND_FACTOR"), (0, u "I"), (36, .class_ 170), (0, u "java/util/ImmutableCollections$MapN$MapNIterator"), (0, .class_ 172), (0, u "java/util/ImmutableCollections$MapN$1"), (0, .class_ 174), (0, u "java/util/ImmutableCollections$Map1"), (0, .class_ 176), (0, u "java/util/ImmutableCollections$AbstractImmutableMap"), (0, .class_ 178), (0, u "java/util/ImmutableCollections$SetN$SetNIterator"), (0, .class_ 180), (0, u "java/util/ImmutableCollections$Set12"), (0, .class_ 182), (0, u "java/util/ImmutableCollections$Set12$1"), (0, .class_ 184), (0, u "java/util/ImmutableCollections$AbstractImmutableSet"), (0, .class_ 186), (0, u "java/util/ImmutableCollections$SubList"), (0, .class_ 188), (0, u "java/util/ImmutableCollections$ListItr"), (0, .class_ 190), (0, u "java/util/ImmutableCollections$AbstractImmutableList"), (0, .class_ 192), (0, u "java/util/ImmutableCollections$AbstractImmutableCollection"), (0, .class_ 194), (0, u "java/util/ImmutableCollections$Access"), (0, .class_ 196), (0, u "java/util/ImmutableCollections$Access$1")] 16

def k18m0 : Method := { name := "<init>", desc := "()V", sig := { parameters := [], returnType := none }, accessFlags := 2, code := none }
/-- java/util/ImmutableCollections -/
def k18 : Class := { plain "java/util/ImmutableCollections" (some 0) with
  accessFlags := 32
  interfaces := #[]
  cf := some (fileOf pool18 47 #[.nestMembers #[120, 169, 171, 173, 175, 111, 177, 179, 181, 183, 12, 10, 185, 187, 189, 191, 193, 195]] #[{ accessFlags := 2, nameIndex := 5, descriptorIndex := 6, attributes := #[] }] 32 2 #[] #[{ accessFlags := 26, nameIndex := 95, descriptorIndex := 96, attributes := #[] }, { accessFlags := 26, nameIndex := 99, descriptorIndex := 17, attributes := #[] }, { accessFlags := 10, nameIndex := 106, descriptorIndex := 56, attributes := #[] }, { accessFlags := 26, nameIndex := 109, descriptorIndex := 110, attributes := #[] }, { accessFlags := 24, nameIndex := 62, descriptorIndex := 63, attributes := #[] }, { accessFlags := 24, nameIndex := 72, descriptorIndex := 63, attributes := #[] }, { accessFlags := 24, nameIndex := 118, descriptorIndex := 119, attributes := #[] }, { accessFlags := 24, nameIndex := 125, descriptorIndex := 126, attributes := #[] }, { accessFlags := 24, nameIndex := 131, descriptorIndex := 132, attributes := #[] }, { accessFlags := 4120, nameIndex := 50, descriptorIndex := 17, attributes := #[] }])
  fields := #[{ name := "SALT32L", type := .long, accessFlags := 26, slot := 0, constantValue := 0 }, { name := "REVERSE", type := .boolean, accessFlags := 26, slot := 1, constantValue := 0 }, { name := "archivedObjects", type := (.array (.object "java/lang/Object")), accessFlags := 10, slot := 2, constantValue := 0 }, { name := "EMPTY", type := (.object "java/lang/Object"), accessFlags := 26, slot := 3, constantValue := 0 }, { name := "EMPTY_LIST", type := (.object "java/util/ImmutableCollections$ListN"), accessFlags := 24, slot := 4, constantValue := 0 }, { name := "EMPTY_LIST_NULLS", type := (.object "java/util/ImmutableCollections$ListN"), accessFlags := 24, slot := 5, constantValue := 0 }, { name := "EMPTY_SET", type := (.object "java/util/ImmutableCollections$SetN"), accessFlags := 24, slot := 6, constantValue := 0 }, { name := "EMPTY_MAP", type := (.object "java/util/ImmutableCollections$MapN"), accessFlags := 24, slot := 7, constantValue := 0 }, { name := "EXPAND_FACTOR", type := .int, accessFlags := 24, slot := 8, constantValue := 0 }, { name := "$assertionsDisabled", type := .boolean, accessFlags := 4120, slot := 9, constantValue := 0 }]
  methods := #[k18m0]
  instanceTypes := #[]
  staticTypes := #[.long, .boolean, (.array (.object "java/lang/Object")), (.object "java/lang/Object"), (.object "java/util/ImmutableCollections$ListN"), (.object "java/util/ImmutableCollections$ListN"), (.object "java/util/ImmutableCollections$SetN"), (.object "java/util/ImmutableCollections$MapN"), .int, .boolean]
  resolved := Array.replicate 213 none
  statics := some 1 }

def pool19 : Array CpInfo := pool [(2, .class_ 4), (1, u "java/util/AbstractCollection"), (0, u "<init>"), (0, u "()V"), (1, .class_ 10), (1, u "java/util/ImmutableCollections"), (2, .class_ 14), (0, u "java/util/ImmutableCollections$AbstractImmutableCollection")] 41

def k19m0 : Method := { name := "<init>", desc := "()V", sig := { parameters := [], returnType := none }, accessFlags := 0, code := none }
/-- java/util/ImmutableCollections$AbstractImmutableCollection -/
def k19 : Class := { plain "java/util/ImmutableCollections$AbstractImmutableCollection" (some 5) with
  accessFlags := 1056
  interfaces := #[]
  cf := some (fileOf pool19 13 #[.nestHost 8] #[{ accessFlags := 0, nameIndex := 5, descriptorIndex := 6, attributes := #[] }] 1056 2 #[] #[])
  fields := #[]
  methods := #[k19m0]
  instanceTypes := #[]
  staticTypes := #[]
  resolved := Array.replicate 56 none
  statics := none }

def pool20 : Array CpInfo := pool [(2, .class_ 4), (1, u "java/util/ImmutableCollections$AbstractImmutableCollection"), (0, u "<init>"), (0, u "()V"), (0, .class_ 8), (0, u "java/util/Set"), (7, .class_ 17), (0, u "java/util/ImmutableCollections$AbstractImmutableSet"), (43, .class_ 62), (0, u "java/util/ImmutableCollections")] 3

def k20m0 : Method := { name := "<init>", desc := "()V", sig := { parameters := [], returnType := none }, accessFlags := 0, code := none }
/-- java/util/ImmutableCollections$AbstractImmutableSet -/
def k20 : Class := { plain "java/util/ImmutableCollections$AbstractImmutableSet" (some 19) with
  accessFlags := 1056
  interfaces := #[17]
  cf := some (fileOf pool20 16 #[.nestHost 61] #[{ accessFlags := 0, nameIndex := 5, descriptorIndex := 6, attributes := #[] }] 1056 2 #[7] #[])
  fields := #[]
  methods := #[k20m0]
  instanceTypes := #[]
  staticTypes := #[]
  resolved := Array.replicate 66 none
  statics := none }

def pool21 : Array CpInfo := pool [(1, .class_ 2), (0, u "java/util/ImmutableCollections"), (1, .class_ 6), (1, u "java/util/ImmutableCollections$AbstractImmutableSet"), (3, .class_ 12), (1, u "java/util/ImmutableCollections$SetN"), (0, u "size"), (0, u "I"), (4, u "elements"), (0, u "[Ljava/lang/Object;"), (86, .class_ 108), (0, u "java/io/Serializable")] 59

/-- java/util/ImmutableCollections$SetN -/
def k21 : Class := { plain "java/util/ImmutableCollections$SetN" (some 20) with
  accessFlags := 48
  interfaces := #[11]
  cf := some (fileOf pool21 10 #[.nestHost 1] #[] 48 4 #[107] #[{ accessFlags := 16, nameIndex := 19, descriptorIndex := 20, attributes := #[] }, { accessFlags := 16, nameIndex := 13, descriptorIndex := 14, attributes := #[] }])
  fields := #[{ name := "elements", type := (.array (.object "java/lang/Object")), accessFlags := 16, slot := 0, constantValue := 0 }, { name := "size", type := .int, accessFlags := 16, slot := 1, constantValue := 0 }]
  methods := #[]
  instanceTypes := #[(.array (.object "java/lang/Object")), .int]
  staticTypes := #[]
  resolved := Array.replicate 168 none
  statics := none }

def pool22 : Array CpInfo := pool [(1, u "java/lang/Class"), (0, .class_ 1), (0, u "java/lang/Object"), (0, .class_ 3)] 0

/-- java/lang/Class -/
def k22 : Class := { plain "java/lang/Class" (some 0) with
  accessFlags := 49
  interfaces := #[]
  cf := some (fileOf pool22 2 #[] #[] 49 4 #[] #[])
  fields := #[]
  methods := #[]
  instanceTypes := #[]
  staticTypes := #[]
  resolved := Array.replicate 5 none
  statics := none }

/-- the primitive byte -/
def k23 : Class := { plain "byte" none with kind := .primitive 'B', accessFlags := 0x411 }
/-- [B -/
def k24 : Class := { plain "[B" (some 0) with kind := .array 23 .byte, interfaces := #[10, 11], accessFlags := 1041 }

/-- the primitive int -/
def k25 : Class := { plain "int" none with kind := .primitive 'I', accessFlags := 0x411 }
/-- [I -/
def k26 : Class := { plain "[I" (some 0) with kind := .array 25 .int, interfaces := #[10, 11], accessFlags := 1041 }

/-- [Ljava/lang/Object; -/
def k27 : Class := { plain "[Ljava/lang/Object;" (some 0) with kind := .array 0 (.object "java/lang/Object"), interfaces := #[10, 11], accessFlags := 1041 }

def heap : Heap := #[{ cls := 12, slots := #[.long 0, .int 0, .ref 7, .ref 8], vm := .statics 12 },
  { cls := 18, slots := #[.long 0, .int 0, .null, .null, .null, .null, .ref 6, .null, .int 0, .int 0], vm := .statics 18 },
  { cls := 22, slots := #[], vm := .mirror 12 },
  { cls := 22, slots := #[], vm := .mirror 15 },
  { cls := 22, slots := #[], vm := .mirror 16 },
  { cls := 27, slots := #[], vm := .none },
  { cls := 21, slots := #[.ref 5, .int 0], vm := .none },
  { cls := 27, slots := #[], vm := .none },
  { cls := 27, slots := #[], vm := .none }]
def classes : Array Class := #[k0, k1, k2, k3, k4, k5, k6, k7, k8, k9, k10, k11, k12, k13, k14, k15, k16, k17, k18, k19, k20, k21, k22, k23, k24, k25, k26, k27]
def interned : List (Array UInt16 × Addr) := []
def slotsUsed : Nat := 16
def theMethod : MethodId := ⟨1, 1⟩
def args0 : Array Value := #[.int 5, .int 7]
def aboutOver (below : List Frame) : State where
  vm := { classes := classes, interned := interned.toArray }
  heap := heap
  slotsUsed := slotsUsed
  threads := #[{ frames := .invoking theMethod args0 :: below }]
def below0 : List Frame := [.native { method := ⟨0, 0⟩, args := #[] }]
def about1 : State := aboutOver below0
def p0 : Program := .bare "" "" ""
def e0 : Env := launch0.env 0 0 0
theorem w_frames : about1.frames = Frame.invoking theMethod args0 :: below0 := rfl
set_option maxRecDepth 65536 in
theorem w_args : argsFit about1.vm theMethod args0 = true := by decide +kernel
set_option maxRecDepth 65536 in
theorem w_heap : heapFits about1 = true := by decide +kernel
set_option maxRecDepth 65536 in
theorem w_runnable : about1.curStatus? = some .runnable := by decide +kernel
set_option maxRecDepth 65536 in
theorem w_alone : about1.alone = true := by decide +kernel
set_option maxRecDepth 65536 in
theorem w_named : about1.methodNamed? x = some theMethod := by decide +kernel
set_option maxRecDepth 65536 in
theorem w_hears : about1.hears theMethod below0 = true := by decide +kernel
set_option maxRecDepth 65536 in
theorem w_ripe : about1.ripe theMethod args0 below0 = true := by decide +kernel
theorem w_running : about1.status = .running := rfl
set_option maxRecDepth 65536 in
theorem w_room : about1.hasRoom e0.platform room_1 = true :=
  launch0.hasRoom_least _ room_1 (by decide +kernel) (by decide +kernel) (by decide +kernel) (by decide +kernel) (by decide +kernel) (by decide +kernel)
theorem allAtoms_all (ts : List Jvm.Cond) (a : Array Jvm.Value) (st : Jvm.State) : (allAtoms ts).before a st = ts.all (fun c => c.before a st) := by
  induction ts with
  | nil => rfl
  | cons c t ih =>
    show (Jvm.Cond.and c (allAtoms t)).before a st = _
    rw [Jvm.Cond.before_and, ih, List.all_cons]
def words1 : List Jvm.Cond := Jvm.Cond.code x code maxLocals ret :: tables_1
/-- a 'code' word, met by the world's own term for the bytes: nothing is compared byte by byte -/
theorem code_word {y : MethodName} {bytes : ByteArray} {mx : Nat} {rt : Option FieldType} {a : Array Value} {s : State} {m : MethodId} {meth : Method} {c : Code} (h1 : s.methodNamed? y = some m) (h2 : s.vm.method? m = some meth) (h3 : meth.code = some c) (h4 : c.code = bytes)
    (h5 : (c.maxLocals == mx && c.exceptionTable.isEmpty && decide (c.maxStack ≤ mostOperands) && decide (meth.sig.returnType = rt) && !meth.locks && decide (parseMethodDescriptor y.desc = some meth.sig)) = true) : (Jvm.Cond.code y bytes mx rt).before a s = true := by
  simp only [Bool.and_eq_true, beq_iff_eq, Bool.not_eq_true', decide_eq_true_eq] at h5
  obtain ⟨⟨⟨⟨⟨g1, g2⟩, g3⟩, g4⟩, g5⟩, g6⟩ := h5
  simp [Cond.before, Cond.holds, Cond.value, h1, h2, h3, h4, g1, g2, g3, g4, g5, g6]
def isCode : Jvm.Cond → Bool
  | .code _ _ _ _ => true
  | _ => false
theorem all_split {L : List Jvm.Cond} {P : Jvm.Cond → Bool} (h1 : L.all (fun c => isCode c || P c) = true) (h2 : ∀ c ∈ L.filter isCode, P c = true) : L.all P = true := by
  refine List.all_eq_true.mpr fun c hc => ?_
  have h := List.all_eq_true.mp h1 c hc
  rcases Bool.eq_false_or_eq_true (isCode c) with hi | hi
  · exact h2 c (List.mem_filter.mpr ⟨hc, hi⟩)
  · simpa [hi] using h
set_option maxRecDepth 65536 in
theorem w_c0 : (Jvm.Cond.code x code maxLocals ret).before args0 about1 = true := code_word (m := ⟨1, 1⟩) (meth := k1m1) (c := k1c1) (by decide +kernel) rfl rfl rfl (by decide +kernel)
set_option maxRecDepth 65536 in
theorem w_c1 : (Jvm.Cond.code ({ cls := "com/example/entail/entail/model/EntrySettings", name := "<init>", desc := "()V" } : Jvm.MethodName) prog_7_method_1_code (1 : Nat) (Option.none : Option Jvm.ClassFile.FieldType)).before args0 about1 = true := code_word (m := ⟨2, 0⟩) (meth := k2m0) (c := k2c0) (by decide +kernel) rfl rfl rfl (by decide +kernel)
set_option maxRecDepth 65536 in
theorem w_c2 : (Jvm.Cond.code ({ cls := "java/lang/Object", name := "<init>", desc := "()V" } : Jvm.MethodName) object_method_1_code (1 : Nat) (Option.none : Option Jvm.ClassFile.FieldType)).before args0 about1 = true := code_word (m := ⟨0, 0⟩) (meth := k0m0) (c := k0c0) (by decide +kernel) rfl rfl rfl (by decide +kernel)
set_option maxRecDepth 65536 in
theorem w_c3 : (Jvm.Cond.code ({ cls := "java/util/ArrayList", name := "<init>", desc := "()V" } : Jvm.MethodName) jdk_38_method_2_code (1 : Nat) (Option.none : Option Jvm.ClassFile.FieldType)).before args0 about1 = true := code_word (m := ⟨12, 0⟩) (meth := k12m0) (c := k12c0) (by decide +kernel) rfl rfl rfl (by decide +kernel)
set_option maxRecDepth 65536 in
theorem w_c4 : (Jvm.Cond.code ({ cls := "java/util/AbstractList", name := "<init>", desc := "()V" } : Jvm.MethodName) jdk_39_method_1_code (1 : Nat) (Option.none : Option Jvm.ClassFile.FieldType)).before args0 about1 = true := code_word (m := ⟨8, 0⟩) (meth := k8m0) (c := k8c0) (by decide +kernel) rfl rfl rfl (by decide +kernel)
set_option maxRecDepth 65536 in
theorem w_c5 : (Jvm.Cond.code ({ cls := "java/util/AbstractCollection", name := "<init>", desc := "()V" } : Jvm.MethodName) jdk_22_method_1_code (1 : Nat) (Option.none : Option Jvm.ClassFile.FieldType)).before args0 about1 = true := code_word (m := ⟨5, 0⟩) (meth := k5m0) (c := k5c0) (by decide +kernel) rfl rfl rfl (by decide +kernel)
set_option maxRecDepth 65536 in
theorem w_c6 : (Jvm.Cond.code ({ cls := "java/util/Collections", name := "unmodifiableList", desc := "(Ljava/util/List;)Ljava/util/List;" } : Jvm.MethodName) jdk_79_method_35_code (1 : Nat) (Option.some (Jvm.ClassFile.FieldType.object "java/util/List"))).before args0 about1 = true := code_word (m := ⟨13, 1⟩) (meth := k13m1) (c := k13c1) (by decide +kernel) rfl rfl rfl (by decide +kernel)
set_option maxRecDepth 65536 in
theorem w_c7 : (Jvm.Cond.code ({ cls := "java/util/Collections$UnmodifiableRandomAccessList", name := "<init>", desc := "(Ljava/util/List;)V" } : Jvm.MethodName) jdk_121_method_1_code (2 : Nat) (Option.none : Option Jvm.ClassFile.FieldType)).before args0 about1 = true := code_word (m := ⟨16, 0⟩) (meth := k16m0) (c := k16c0) (by decide +kernel) rfl rfl rfl (by decide +kernel)
set_option maxRecDepth 65536 in
theorem w_c8 : (Jvm.Cond.code ({ cls := "java/util/Collections$UnmodifiableList", name := "<init>", desc := "(Ljava/util/List;)V" } : Jvm.MethodName) jdk_120_method_1_code (2 : Nat) (Option.none : Option Jvm.ClassFile.FieldType)).before args0 about1 = true := code_word (m := ⟨15, 0⟩) (meth := k15m0) (c := k15c0) (by decide +kernel) rfl rfl rfl (by decide +kernel)
set_option maxRecDepth 65536 in
theorem w_c9 : (Jvm.Cond.code ({ cls := "java/util/Collections$UnmodifiableCollection", name := "<init>", desc := "(Ljava/util/Collection;)V" } : Jvm.MethodName) jdk_119_method_1_code (2 : Nat) (Option.none : Option Jvm.ClassFile.FieldType)).before args0 about1 = true := code_word (m := ⟨14, 0⟩) (meth := k14m0) (c := k14c0) (by decide +kernel) rfl rfl rfl (by decide +kernel)
set_option maxRecDepth 65536 in
theorem w_c10 : (Jvm.Cond.code ({ cls := "java/util/Set", name := "of", desc := "()Ljava/util/Set;" } : Jvm.MethodName) jdk_96_method_17_code (0 : Nat) (Option.some (Jvm.ClassFile.FieldType.object "java/util/Set"))).before args0 about1 = true := code_word (m := ⟨17, 0⟩) (meth := k17m0) (c := k17c0) (by decide +kernel) rfl rfl rfl (by decide +kernel)
set_option maxRecDepth 65536 in
theorem w_c11 : (Jvm.Cond.code ({ cls := "com/example/entail/entail/model/EntrySettings", name := "blocks", desc := "()Z" } : Jvm.MethodName) prog_7_method_3_code (1 : Nat) (Option.some Jvm.ClassFile.FieldType.boolean)).before args0 about1 = true := code_word (m := ⟨2, 1⟩) (meth := k2m1) (c := k2c1) (by decide +kernel) rfl rfl rfl (by decide +kernel)
set_option maxRecDepth 65536 in
theorem w_c12 : (Jvm.Cond.code ({ cls := "com/example/entail/entail/model/EntrySettings", name := "setBlocks", desc := "(Z)Z" } : Jvm.MethodName) prog_7_method_7_code (3 : Nat) (Option.some Jvm.ClassFile.FieldType.boolean)).before args0 about1 = true := code_word (m := ⟨2, 2⟩) (meth := k2m2) (c := k2c2) (by decide +kernel) rfl rfl rfl (by decide +kernel)
def codes1 : List Jvm.Cond := [Jvm.Cond.code x code maxLocals ret, Jvm.Cond.code ({ cls := "com/example/entail/entail/model/EntrySettings", name := "<init>", desc := "()V" } : Jvm.MethodName) prog_7_method_1_code (1 : Nat) (Option.none : Option Jvm.ClassFile.FieldType), Jvm.Cond.code ({ cls := "java/lang/Object", name := "<init>", desc := "()V" } : Jvm.MethodName) object_method_1_code (1 : Nat) (Option.none : Option Jvm.ClassFile.FieldType), Jvm.Cond.code ({ cls := "java/util/ArrayList", name := "<init>", desc := "()V" } : Jvm.MethodName) jdk_38_method_2_code (1 : Nat) (Option.none : Option Jvm.ClassFile.FieldType), Jvm.Cond.code ({ cls := "java/util/AbstractList", name := "<init>", desc := "()V" } : Jvm.MethodName) jdk_39_method_1_code (1 : Nat) (Option.none : Option Jvm.ClassFile.FieldType), Jvm.Cond.code ({ cls := "java/util/AbstractCollection", name := "<init>", desc := "()V" } : Jvm.MethodName) jdk_22_method_1_code (1 : Nat) (Option.none : Option Jvm.ClassFile.FieldType), Jvm.Cond.code ({ cls := "java/util/Collections", name := "unmodifiableList", desc := "(Ljava/util/List;)Ljava/util/List;" } : Jvm.MethodName) jdk_79_method_35_code (1 : Nat) (Option.some (Jvm.ClassFile.FieldType.object "java/util/List")), Jvm.Cond.code ({ cls := "java/util/Collections$UnmodifiableRandomAccessList", name := "<init>", desc := "(Ljava/util/List;)V" } : Jvm.MethodName) jdk_121_method_1_code (2 : Nat) (Option.none : Option Jvm.ClassFile.FieldType), Jvm.Cond.code ({ cls := "java/util/Collections$UnmodifiableList", name := "<init>", desc := "(Ljava/util/List;)V" } : Jvm.MethodName) jdk_120_method_1_code (2 : Nat) (Option.none : Option Jvm.ClassFile.FieldType), Jvm.Cond.code ({ cls := "java/util/Collections$UnmodifiableCollection", name := "<init>", desc := "(Ljava/util/Collection;)V" } : Jvm.MethodName) jdk_119_method_1_code (2 : Nat) (Option.none : Option Jvm.ClassFile.FieldType), Jvm.Cond.code ({ cls := "java/util/Set", name := "of", desc := "()Ljava/util/Set;" } : Jvm.MethodName) jdk_96_method_17_code (0 : Nat) (Option.some (Jvm.ClassFile.FieldType.object "java/util/Set")), Jvm.Cond.code ({ cls := "com/example/entail/entail/model/EntrySettings", name := "blocks", desc := "()Z" } : Jvm.MethodName) prog_7_method_3_code (1 : Nat) (Option.some Jvm.ClassFile.FieldType.boolean), Jvm.Cond.code ({ cls := "com/example/entail/entail/model/EntrySettings", name := "setBlocks", desc := "(Z)Z" } : Jvm.MethodName) prog_7_method_7_code (3 : Nat) (Option.some Jvm.ClassFile.FieldType.boolean)]
set_option maxRecDepth 65536 in
theorem codes_eq : words1.filter isCode = codes1 := rfl
theorem w_codes : ∀ c ∈ words1.filter isCode, c.before args0 about1 = true := by
  rw [codes_eq]
  intro c hc
  simp only [codes1, List.mem_cons, List.not_mem_nil, or_false] at hc
  rcases hc with rfl | rfl | rfl | rfl | rfl | rfl | rfl | rfl | rfl | rfl | rfl | rfl | rfl
  · exact w_c0
  · exact w_c1
  · exact w_c2
  · exact w_c3
  · exact w_c4
  · exact w_c5
  · exact w_c6
  · exact w_c7
  · exact w_c8
  · exact w_c9
  · exact w_c10
  · exact w_c11
  · exact w_c12
set_option maxRecDepth 65536 in
theorem w_t1 : (words1.take 24).all (fun c => isCode c || c.before args0 about1) = true := by decide +kernel
set_option maxRecDepth 65536 in
theorem w_t2 : ((words1.drop 24).take 24).all (fun c => isCode c || c.before args0 about1) = true := by decide +kernel
set_option maxRecDepth 65536 in
theorem w_t3 : (((words1.drop 24).drop 24).take 24).all (fun c => isCode c || c.before args0 about1) = true := by decide +kernel
set_option maxRecDepth 65536 in
theorem w_t4 : ((((words1.drop 24).drop 24).drop 24).take 24).all (fun c => isCode c || c.before args0 about1) = true := by decide +kernel
set_option maxRecDepth 65536 in
theorem w_t5 : ((((words1.drop 24).drop 24).drop 24).drop 24).all (fun c => isCode c || c.before args0 about1) = true := by decide +kernel
theorem w_tables : (allAtoms (Jvm.Cond.code x code maxLocals ret :: tables_1)).before args0 about1 = true := by
  rw [allAtoms_all]
  show words1.all (fun c => c.before args0 about1) = true
  refine all_split ?_ w_codes
  rw [← List.take_append_drop 24 words1, List.all_append, w_t1, ← List.take_append_drop 24 (words1.drop 24), List.all_append, w_t2, ← List.take_append_drop 24 ((words1.drop 24).drop 24), List.all_append, w_t3, ← List.take_append_drop 24 (((words1.drop 24).drop 24).drop 24), List.all_append, w_t4, w_t5]
  rfl
set_option maxRecDepth 65536 in
theorem w_rest : rest_1_c.before args0 about1 = true := by decide +kernel
set_option maxRecDepth 65536 in
theorem w_case : (Jvm.Cond.and given_1 narrow_1).before args0 about1 = true := by decide +kernel
theorem w_applies : (headSpec (Jvm.Cond.code x code maxLocals ret :: tables_1) room_1).applies x e0.platform about1 = true :=
  (Spec.applies_iff w_frames).mpr ⟨w_running, w_runnable, w_alone, w_named, w_hears, w_ripe, w_room, w_tables⟩
theorem atStart : AtStart classFile x code maxLocals ret World_1 tables_1 room_1 Calls_1 rest_1 Pre_1 launch0 p0 e0 about1 theMethod args0 below0 :=
  ⟨lists_1, trivial, launch0.admits_env _ _ _, launch0.least_env, fairChoices_fair.cas, fairChoices_fair.clock, w_frames, w_args, w_heap, w_applies, ⟨⟨12, k12, 2, by decide +kernel, rfl, rfl, _, rfl, rfl⟩, ⟨⟨15, k15, 3, by decide +kernel, rfl, rfl, _, rfl, rfl⟩, ⟨⟨16, k16, 4, by decide +kernel, rfl, rfl, _, rfl, rfl⟩, trivial⟩⟩⟩, w_rest, w_case⟩
end start1
theorem witness_1 : WitnessClaimed_1 := ⟨start1.p0, start1.e0, start1.about1, start1.theMethod, start1.args0, start1.below0, start1.atStart⟩
end Jvm.Pilot.@@N@@
