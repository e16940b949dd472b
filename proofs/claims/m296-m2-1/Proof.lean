import JvmDerived
import JvmDerived.Pilot.@@N@@Statement
import JvmDerived.Pilot.@@N@@Code
set_option linter.unusedVariables false
set_option linter.unusedSimpArgs false
@@BLOCK:NumsL.lean.txt@@
namespace Jvm.Pilot.@@N@@
open Jvm Jvm.ClassFile Sem Op Lib Jvm.Free Jvm.Stand Jvm.LawKit Jvm.RoadKit Bundle Jvm.Pilot.@@N@@.Jvm.D
/-- the run goes on from U and ends as Q says -/
def Goes (p : Program) (e : Env) (below : List Frame) (U : State) (Q : Outcome → State → Prop) : Prop := ∃ s₂ o, Steps p.tables e below U s₂ ∧ s₂.status = .running ∧ Ended s₂ below o ∧ Q o s₂
theorem Goes.by {p : Program} {e : Env} {below : List Frame} {U U' : State} {Q : Outcome → State → Prop} (h : ∀ t, Steps p.tables e below U' t → Steps p.tables e below U t) (g : Goes p e below U' Q) : Goes p e below U Q := by
  obtain ⟨s, o, h1, h2⟩ := g; exact ⟨s, o, h _ h1, h2⟩
theorem Goes.tr {p : Program} {e : Env} {below : List Frame} {U U' : State} {Q : Outcome → State → Prop} (h : Steps p.tables e below U U') (g : Goes p e below U' Q) : Goes p e below U Q := Goes.by (fun _ k => h.trans k) g
theorem Goes.join {α : Type} {p : Program} {e : Env} {below : List Frame} {U : State} {Q : Outcome → State → Prop} (P : α → Prop) (S : α → State) (k : (∀ z, P z → Goes p e below (S z) Q) → Goes p e below U Q) (j : ∀ z, P z → Goes p e below (S z) Q) : Goes p e below U Q := k j
theorem Goes.out {p : Program} {e : Env} {below : List Frame} {U : State} {Q : Outcome → State → Prop} (g : Goes p e below U Q) : ∃ s₂ o, Steps p.tables e below U s₂ ∧ s₂.status = .running ∧ Ended s₂ below o ∧ Q o s₂ := g
/-- a callee that writes nothing and returns r -/
def QP (r : Option Value) (h0 : Heap) (n0 : Nat) (v : Option Value) (h : Heap) (L : List Loc) : Prop := v = r ∧ Fr n0 L ∧ h = h0
/-- the law -/
def QL (n0 : Nat) (v : Option Value) (h : Heap) (L : List Loc) : Prop := v = some (.int 1) ∧ Fr n0 L
theorem own_lt {a b : Int64} (h : a < b) : lcmpW a b < 0 := by rw [lcW]; exact (lc_lt a b).mpr h
theorem own_nlt {a b : Int64} (h : ¬ a < b) : ¬ lcmpW a b < 0 := by rw [lcW]; exact fun q => h ((lc_lt a b).mp q)
theorem own_gt {a b : Int64} (h : b < a) : 0 < lcmpW a b := by rw [lcW]; exact (lc_gt a b).mpr h
theorem own_ngt {a b : Int64} (h : ¬ b < a) : ¬ 0 < lcmpW a b := by rw [lcW]; exact fun q => h ((lc_gt a b).mp q)
theorem own_eq {a b : Int64} (h : a = b) : lcmpW a b = 0 := by rw [lcW]; exact (lc_eq a b).mpr h
theorem own_neq {a b : Int64} (h : ¬ a = b) : ¬ lcmpW a b = 0 := by rw [lcW]; exact fun q => h ((lc_eq a b).mp q)
theorem own_staKeep {Z : State} {h h' : Heap} {C n d : String} {v : Value} {ws : List Addr} (F : Sta Z h C n d v) (K : Keep h h' ws) (q : ∀ x ∈ ws, ∃ c : Cell, h[x]? = some c ∧ c.vm.isStatics = false) : Sta Z h' C n d v := by
  obtain ⟨cf, i, k, f, st, cell, h1, h2, h3, h4, h5, h6, h7⟩ := F
  refine ⟨cf, i, k, f, st, cell, h1, h2, h3, h4, K.2.1 st cell h5 (fun hm => ?_), h6, h7⟩
  obtain ⟨c, e1, e2⟩ := q st hm
  cases e1.symm.trans h5; rw [e2] at h6; cases h6
theorem own_nsE {Z : State} {h : Heap} {a : Addr} {C : String} (F : Exa Z h a C) : ∃ c : Cell, h[a]? = some c ∧ c.vm.isStatics = false := by
  obtain ⟨c, k, h1, h2, h3, h4, h5⟩ := F; exact ⟨c, h1, h4⟩
theorem own_nsV {Z : State} {h : Heap} {a : Addr} {k : ClassId} {ty : FieldType} {n : Int32} {vs : List Value} {d : Value} (F : Arv Z h a k ty n vs d) : ∃ c : Cell, h[a]? = some c ∧ c.vm.isStatics = false := by
  obtain ⟨c, A, r⟩ := F; exact ⟨c, A.1, A.plain⟩
theorem own_fldI {s : State} {args : Array Value} {t : Term} {a : Addr} {C n d : String} {k : Int32} (ev : t.eval args s none [] s = some (.ref a)) (h : (Cond.eq (.field t C n d) (.int k)).value args s none s [] = some true) : Fld s s.heap a C n d (.int k) := by
  obtain ⟨x, y, h1, h2, k1, k2⟩ := cmp_v (Or.inl h)
  obtain rfl : y = .int k := (Option.some.inj h2).symm
  obtain ⟨z, rfl⟩ := k2
  have e1 : (Cond.eq (.field t C n d) (.int k)).value args s none s [] = some (decide (z = k)) := by simp [Cond.value, h1, h2]
  have e2 : z = k := gotT e1 h
  subst e2
  rw [fld_at ev] at h1
  exact Fld.start h1
theorem own_fldR {s : State} {args : Array Value} {t u : Term} {a b : Addr} {C n d : String} (ev : t.eval args s none [] s = some (.ref a)) (eu : u.eval args s none [] s = some (.ref b)) (h : (Cond.eq (.field t C n d) u).value args s none s [] = some true) : Fld s s.heap a C n d (.ref b) := by
  obtain ⟨x, y, h1, h2, k1, k2⟩ := cmp_v (Or.inl h)
  obtain rfl : y = .ref b := Option.some.inj (h2.symm.trans eu)
  have hx : x.isRef = true := k2.2
  have e2 : x = .ref b := gotT (eq_R h1 h2 hx rfl) h
  subst e2
  rw [fld_at ev] at h1
  exact Fld.start h1
def Pins (Z : State) (h : Heap) (w : Nat → Addr) : Prop := Sta Z h "com/example/entail/entail/model/Scope" "THIS_FOLDER_SUBFOLDERS_AND_DOCUMENTS" "Lcom/example/entail/entail/model/Scope;" (.ref (w 0)) ∧ Exa Z h (w 0) "com/example/entail/entail/model/Scope" ∧ Sta Z h "com/example/entail/entail/model/Scope" "THIS_FOLDER_AND_SUBFOLDERS" "Lcom/example/entail/entail/model/Scope;" (.ref (w 1)) ∧ Exa Z h (w 1) "com/example/entail/entail/model/Scope" ∧ Sta Z h "com/example/entail/entail/model/Scope" "THIS_FOLDER_AND_IMMEDIATE_CHILDREN" "Lcom/example/entail/entail/model/Scope;" (.ref (w 2)) ∧ Exa Z h (w 2) "com/example/entail/entail/model/Scope" ∧ Sta Z h "com/example/entail/entail/model/Scope" "THIS_ENTRY_ONLY" "Lcom/example/entail/entail/model/Scope;" (.ref (w 3)) ∧ Exa Z h (w 3) "com/example/entail/entail/model/Scope" ∧ Sta Z h "com/example/entail/entail/model/Scope" "IMMEDIATE_CHILDREN_ONLY" "Lcom/example/entail/entail/model/Scope;" (.ref (w 4)) ∧ Exa Z h (w 4) "com/example/entail/entail/model/Scope" ∧ Sta Z h "com/example/entail/entail/model/Scope" "IMMEDIATE_DOCUMENTS_ONLY" "Lcom/example/entail/entail/model/Scope;" (.ref (w 5)) ∧ Exa Z h (w 5) "com/example/entail/entail/model/Scope" ∧ Sta Z h "com/example/entail/entail/model/Scope" "SUBFOLDERS_AND_DOCUMENTS_ONLY" "Lcom/example/entail/entail/model/Scope;" (.ref (w 6)) ∧ Exa Z h (w 6) "com/example/entail/entail/model/Scope" ∧ Sta Z h "com/example/entail/entail/model/Scope" "SUBFOLDERS_ONLY" "Lcom/example/entail/entail/model/Scope;" (.ref (w 7)) ∧ Exa Z h (w 7) "com/example/entail/entail/model/Scope" ∧ Sta Z h "com/example/entail/entail/model/Scope" "DOCUMENTS_ONLY" "Lcom/example/entail/entail/model/Scope;" (.ref (w 8)) ∧ Exa Z h (w 8) "com/example/entail/entail/model/Scope" ∧ Fld Z h (w 0) "com/example/entail/entail/model/Scope" "deeperDocuments" "Z" (.int (1 : Int32)) ∧ Fld Z h (w 1) "com/example/entail/entail/model/Scope" "deeperFolders" "Z" (.int (1 : Int32)) ∧ Fld Z h (w 2) "com/example/entail/entail/model/Scope" "deeperFolders" "Z" (.int (0 : Int32)) ∧ Fld Z h (w 3) "com/example/entail/entail/model/Scope" "deeperFolders" "Z" (.int (0 : Int32)) ∧ Fld Z h (w 3) "com/example/entail/entail/model/Scope" "self" "Z" (.int (1 : Int32)) ∧ Fld Z h (w 4) "com/example/entail/entail/model/Scope" "deeperFolders" "Z" (.int (0 : Int32)) ∧ Fld Z h (w 5) "com/example/entail/entail/model/Scope" "deeperFolders" "Z" (.int (0 : Int32)) ∧ Fld Z h (w 0) "com/example/entail/entail/model/Scope" "deeperFolders" "Z" (.int (1 : Int32)) ∧ Fld Z h (w 6) "com/example/entail/entail/model/Scope" "deeperFolders" "Z" (.int (1 : Int32)) ∧ Fld Z h (w 3) "com/example/entail/entail/model/Scope" "childDocuments" "Z" (.int (0 : Int32)) ∧ Fld Z h (w 1) "com/example/entail/entail/model/Scope" "deeperDocuments" "Z" (.int (0 : Int32)) ∧ Fld Z h (w 5) "com/example/entail/entail/model/Scope" "deeperDocuments" "Z" (.int (0 : Int32)) ∧ Fld Z h (w 2) "com/example/entail/entail/model/Scope" "deeperDocuments" "Z" (.int (0 : Int32)) ∧ Fld Z h (w 7) "com/example/entail/entail/model/Scope" "deeperDocuments" "Z" (.int (0 : Int32)) ∧ Fld Z h (w 7) "com/example/entail/entail/model/Scope" "deeperFolders" "Z" (.int (1 : Int32)) ∧ Fld Z h (w 4) "com/example/entail/entail/model/Scope" "deeperDocuments" "Z" (.int (0 : Int32)) ∧ Fld Z h (w 8) "com/example/entail/entail/model/Scope" "deeperDocuments" "Z" (.int (1 : Int32)) ∧ Fld Z h (w 8) "com/example/entail/entail/model/Scope" "deeperFolders" "Z" (.int (0 : Int32)) ∧ Fld Z h (w 7) "com/example/entail/entail/model/Scope" "self" "Z" (.int (0 : Int32)) ∧ Fld Z h (w 1) "com/example/entail/entail/model/Scope" "self" "Z" (.int (1 : Int32)) ∧ Fld Z h (w 3) "com/example/entail/entail/model/Scope" "deeperDocuments" "Z" (.int (0 : Int32)) ∧ Fld Z h (w 0) "com/example/entail/entail/model/Scope" "self" "Z" (.int (1 : Int32)) ∧ Fld Z h (w 0) "com/example/entail/entail/model/Scope" "childDocuments" "Z" (.int (1 : Int32)) ∧ Fld Z h (w 6) "com/example/entail/entail/model/Scope" "deeperDocuments" "Z" (.int (1 : Int32)) ∧ Fld Z h (w 2) "com/example/entail/entail/model/Scope" "childFolders" "Z" (.int (1 : Int32)) ∧ Fld Z h (w 6) "com/example/entail/entail/model/Scope" "childFolders" "Z" (.int (1 : Int32)) ∧ Fld Z h (w 6) "com/example/entail/entail/model/Scope" "self" "Z" (.int (0 : Int32)) ∧ Fld Z h (w 3) "com/example/entail/entail/model/Scope" "childFolders" "Z" (.int (0 : Int32)) ∧ Fld Z h (w 2) "com/example/entail/entail/model/Scope" "self" "Z" (.int (1 : Int32)) ∧ Fld Z h (w 6) "com/example/entail/entail/model/Scope" "childDocuments" "Z" (.int (1 : Int32)) ∧ Fld Z h (w 1) "com/example/entail/entail/model/Scope" "childDocuments" "Z" (.int (0 : Int32)) ∧ Fld Z h (w 4) "com/example/entail/entail/model/Scope" "self" "Z" (.int (0 : Int32)) ∧ Fld Z h (w 1) "com/example/entail/entail/model/Scope" "childFolders" "Z" (.int (1 : Int32)) ∧ Fld Z h (w 2) "com/example/entail/entail/model/Scope" "childDocuments" "Z" (.int (1 : Int32)) ∧ Fld Z h (w 4) "com/example/entail/entail/model/Scope" "childDocuments" "Z" (.int (1 : Int32)) ∧ Fld Z h (w 0) "com/example/entail/entail/model/Scope" "childFolders" "Z" (.int (1 : Int32)) ∧ Fld Z h (w 4) "com/example/entail/entail/model/Scope" "childFolders" "Z" (.int (1 : Int32)) ∧ Fld Z h (w 7) "com/example/entail/entail/model/Scope" "childFolders" "Z" (.int (1 : Int32)) ∧ Fld Z h (w 8) "com/example/entail/entail/model/Scope" "self" "Z" (.int (0 : Int32)) ∧ Fld Z h (w 5) "com/example/entail/entail/model/Scope" "self" "Z" (.int (0 : Int32)) ∧ Fld Z h (w 7) "com/example/entail/entail/model/Scope" "childDocuments" "Z" (.int (0 : Int32)) ∧ Fld Z h (w 5) "com/example/entail/entail/model/Scope" "childDocuments" "Z" (.int (1 : Int32)) ∧ Fld Z h (w 5) "com/example/entail/entail/model/Scope" "childFolders" "Z" (.int (0 : Int32)) ∧ Fld Z h (w 8) "com/example/entail/entail/model/Scope" "childDocuments" "Z" (.int (1 : Int32)) ∧ Fld Z h (w 8) "com/example/entail/entail/model/Scope" "childFolders" "Z" (.int (0 : Int32))
theorem own_split (x : Int32) : ((x &&& (2147483647 : Int32)) % (9 : Int32)) = (0 : Int32) ∨ ((x &&& (2147483647 : Int32)) % (9 : Int32)) = (1 : Int32) ∨ ((x &&& (2147483647 : Int32)) % (9 : Int32)) = (2 : Int32) ∨ ((x &&& (2147483647 : Int32)) % (9 : Int32)) = (3 : Int32) ∨ ((x &&& (2147483647 : Int32)) % (9 : Int32)) = (4 : Int32) ∨ ((x &&& (2147483647 : Int32)) % (9 : Int32)) = (5 : Int32) ∨ ((x &&& (2147483647 : Int32)) % (9 : Int32)) = (6 : Int32) ∨ ((x &&& (2147483647 : Int32)) % (9 : Int32)) = (7 : Int32) ∨ ((x &&& (2147483647 : Int32)) % (9 : Int32)) = (8 : Int32) := by
  have e1 : (x &&& (2147483647 : Int32)).toInt = x.toInt % 2 ^ 31 := Jvm.Kit.i32_mask x (2147483647 : Int32) (k := 31) (by decide) (by decide)
  have e2 : (((x &&& (2147483647 : Int32)) % (9 : Int32))).toInt = (x &&& (2147483647 : Int32)).toInt % (9 : Int32).toInt := Jvm.Kit.i32_rem_nonneg (by omega)
  rw [show (9 : Int32).toInt = 9 from by decide] at e2
  simp only [← Int32.toInt_inj]
  rw [show (0 : Int32).toInt = 0 from by decide, show (1 : Int32).toInt = 1 from by decide, show (2 : Int32).toInt = 2 from by decide, show (3 : Int32).toInt = 3 from by decide, show (4 : Int32).toInt = 4 from by decide, show (5 : Int32).toInt = 5 from by decide, show (6 : Int32).toInt = 6 from by decide, show (7 : Int32).toInt = 7 from by decide, show (8 : Int32).toInt = 8 from by decide]
  omega
theorem own_n (x : Int32) : (x &&& (2147483647 : Int32)) = (0 : Int32) ∨ (x &&& (2147483647 : Int32)) = (1 : Int32) ∨ (¬ (x &&& (2147483647 : Int32)) = (0 : Int32) ∧ ¬ (x &&& (2147483647 : Int32)) = (1 : Int32) ∧ ¬ (x &&& (2147483647 : Int32)) < (1 : Int32) ∧ ¬ (x &&& (2147483647 : Int32)) < (0 : Int32)) := by
  have e1 : (x &&& (2147483647 : Int32)).toInt = x.toInt % 2 ^ 31 := Jvm.Kit.i32_mask x (2147483647 : Int32) (k := 31) (by decide) (by decide)
  simp only [← Int32.toInt_inj, Int32.lt_iff_toInt_lt]
  rw [show (0 : Int32).toInt = 0 from by decide, show (1 : Int32).toInt = 1 from by decide]
  omega
theorem own_f (x : Int32) : (x &&& (1 : Int32)) = (0 : Int32) ∨ (x &&& (1 : Int32)) = (1 : Int32) := by
  have e1 : ((x &&& (1 : Int32))).toInt = x.toInt % 2 ^ 1 := Jvm.Kit.i32_mask x (1 : Int32) (k := 1) (by decide) (by decide)
  simp only [← Int32.toInt_inj]
  rw [show (0 : Int32).toInt = 0 from by decide, show (1 : Int32).toInt = 1 from by decide]
  omega
theorem d1_0 : decode prog_11_method_6_code 0 = .ok (.iload_n 1, 1) := by decide +kernel
theorem d1_1 : decode prog_11_method_6_code 1 = .ok (.ifCond .ge 17, 3) := by decide +kernel
theorem d1_18 : decode prog_11_method_6_code 18 = .ok (.iload_n 1, 1) := by decide +kernel
theorem d1_19 : decode prog_11_method_6_code 19 = .ok (.ifCond .ne 8, 3) := by decide +kernel
theorem d1_22 : decode prog_11_method_6_code 22 = .ok (.aload_n 0, 1) := by decide +kernel
theorem d1_23 : decode prog_11_method_6_code 23 = .ok (.getfield 54, 3) := by decide +kernel
theorem d1_26 : decode prog_11_method_6_code 26 = .ok (.ireturn, 1) := by decide +kernel
theorem ef1_RII (m : MethodId) (x0 : Addr) (x1 : Int32) (x2 : Int32) : entryFrame m #[(.ref x0), (.int x1), (.int x2)] 3 = mkF m 0 #[.val (.ref x0), .val (.int x1), .val (.int x2)] [] := by first | (simp [entryFrame, mkF, argsToLocals, Value.category]; done) | rfl
theorem pn0 : plainName "com/example/entail/entail/model/Scope" = true := by first | (simp [plainName, overriddenIn]; done) | decide +kernel
theorem pd0 : parseMethodDescriptor "(IZ)Z" = some ⟨[.int, .boolean], some .boolean⟩ := by decide +kernel
theorem d1_27 : decode prog_11_method_6_code 27 = .ok (.iload_n 1, 1) := by decide +kernel
theorem d1_28 : decode prog_11_method_6_code 28 = .ok (.iconst 1, 1) := by decide +kernel
theorem d1_29 : decode prog_11_method_6_code 29 = .ok (.if_icmp .ne 19, 3) := by decide +kernel
theorem d1_32 : decode prog_11_method_6_code 32 = .ok (.iload_n 2, 1) := by decide +kernel
theorem d1_33 : decode prog_11_method_6_code 33 = .ok (.ifCond .eq 10, 3) := by decide +kernel
theorem d1_43 : decode prog_11_method_6_code 43 = .ok (.aload_n 0, 1) := by decide +kernel
theorem d1_44 : decode prog_11_method_6_code 44 = .ok (.getfield 61, 3) := by decide +kernel
theorem d1_47 : decode prog_11_method_6_code 47 = .ok (.ireturn, 1) := by decide +kernel
theorem d1_36 : decode prog_11_method_6_code 36 = .ok (.aload_n 0, 1) := by decide +kernel
theorem d1_37 : decode prog_11_method_6_code 37 = .ok (.getfield 58, 3) := by decide +kernel
theorem d1_40 : decode prog_11_method_6_code 40 = .ok (.goto 7, 3) := by decide +kernel
theorem d1_48 : decode prog_11_method_6_code 48 = .ok (.iload_n 2, 1) := by decide +kernel
theorem d1_49 : decode prog_11_method_6_code 49 = .ok (.ifCond .eq 10, 3) := by decide +kernel
theorem d1_59 : decode prog_11_method_6_code 59 = .ok (.aload_n 0, 1) := by decide +kernel
theorem d1_60 : decode prog_11_method_6_code 60 = .ok (.getfield 67, 3) := by decide +kernel
theorem d1_63 : decode prog_11_method_6_code 63 = .ok (.ireturn, 1) := by decide +kernel
theorem d1_52 : decode prog_11_method_6_code 52 = .ok (.aload_n 0, 1) := by decide +kernel
theorem d1_53 : decode prog_11_method_6_code 53 = .ok (.getfield 64, 3) := by decide +kernel
theorem d1_56 : decode prog_11_method_6_code 56 = .ok (.goto 7, 3) := by decide +kernel
theorem ef0_III (m : MethodId) (x0 : Int32) (x1 : Int32) (x2 : Int32) : entryFrame m #[(.int x0), (.int x1), (.int x2)] maxLocals = mkF m 0 #[.val (.int x0), .val (.int x1), .val (.int x2), .unset, .unset, .unset, .unset, .unset, .unset, .unset, .unset] [] := by first | (simp [entryFrame, mkF, argsToLocals, Value.category, maxLocals]; done) | rfl
theorem pn1 : plainName "com/example/entail/entail/model/ScopeReachesPinLaw" = true := by first | (simp [plainName, overriddenIn]; done) | decide +kernel
set_option maxRecDepth 65536 in
set_option maxHeartbeats 40000000 in
theorem r1_0 (l : Launch) (Z : State) (a0 : Array Value) (hw : ∀ d ∈ tables_1, d.before a0 Z = true) (ws : List Jvm.Cond) (h0 : Heap) (n0 : Nat) (Z0 : n0 ≤ h0.size) (w : Nat → Addr) (P : Pins Z h0 w) :
    MetFree l (⟨"com/example/entail/entail/model/Scope", "reaches", "(IZ)Z"⟩ : MethodName) (head1 (Jvm.Cond.code (⟨"com/example/entail/entail/model/Scope", "reaches", "(IZ)Z"⟩ : MethodName) prog_11_method_6_code 3 (some .boolean) :: ws) ({ frames := 0, cells := 0, slots := 0, locals := 0 } : Room)) (fun a U => a = #[(.ref (w 0)), (.int (0 : Int32)), (.int (0 : Int32))] ∧ Z.Warmed39 U.vm ∧ U.heap = h0) (fun _ _ _ _ _ => True) (fun _ U o U' => ∃ v L, o = .returned v ∧ QP (some (.int (1 : Int32))) h0 n0 v U'.heap L ∧ FrameEnd U o U' L ({ frames := 0, cells := 0, slots := 0, locals := 0 } : Room).cells ({ frames := 0, cells := 0, slots := 0, locals := 0 } : Room).slots) := by
  refine MetFree.of_bodySF (plainFor_of_name pn0) hisR ?_
  intro p e s m args below meth c s₁ Bd hml0 hP hK
  obtain ⟨rfl, hZ, hh⟩ := hP
  have hx := Bd.exec
  have hby := Bd.bytes
  have hml : c.maxLocals = 3 := hml0
  have hown : s.vm.findClass "com/example/entail/entail/model/Scope" = some m.cls := findClass_of_methodNamed Bd.named
  have hnm := (name_of_methodNamed Bd.named Bd.method).1
  have X0 : Stand p l e ({ frames := 0, cells := 0, slots := 0, locals := 0 } : Room) s m #[(.ref (w 0)), (.int (0 : Int32)), (.int (0 : Int32))] below meth c s₁ [] 0 0 := Stand.of_body Bd
  have e0 : s₁.heap = h0 := by rw [← hh, Bd.state]; rfl
  have N0 := Fr.nil n0
  refine Goes.out (Goes.by (fun tz kz => castTop (ef1_RII m ((w 0)) ((0 : Int32)) ((0 : Int32))) kz) ?_)
  show Goes p e below (s₁.setTop (mkF m 0 #[.val (.ref (w 0)), .val (.int (0 : Int32)), .val (.int (0 : Int32))] [])) _
  refine Goes.by (fun _ kz => XS.iloadN X0.here hx rfl (hb hby d1_0) rfl (XS.ifYes X0.here hx rfl (pc0 := 1) (pc' := 18) rfl (hb hby d1_1) rfl ((if0 _ _).trans (flt (by decide : ¬ ((0 : Int32) < (0 : Int32)))).2.1) (by decide) (by decide) (XS.iloadN X0.here hx rfl (hb hby d1_18) rfl kz))) ?_
  show Goes p e below (s₁.setTop (mkF m 19 #[.val (.ref (w 0)), .val (.int (0 : Int32)), .val (.int (0 : Int32))] [(.int (0 : Int32))])) _
  refine Goes.by (fun _ kz => XS.ifNo X0.here hx rfl (hb hby d1_19) rfl ((if0 _ _).trans (teq (by decide : (0 : Int32) = (0 : Int32))).2) (XS.aloadN X0.here hx rfl (hb hby d1_22) rfl rfl kz)) ?_
  obtain ⟨T2, X2, e2, st2⟩ := getF X0 hx hZ hown (host := "") (Or.inl (hw _ (List.mem_of_getElem? (i := 19) rfl))) Via.refl e0 P.2.2.2.2.2.2.2.2.2.2.2.2.2.2.2.2.2.2.2.2.2.2.2.2.2.2.2.2.2.2.2.2.2.2.2.2.2.2.2.1 (g := (mkF m 23 #[.val (.ref (w 0)), .val (.int (0 : Int32)), .val (.int (0 : Int32))] [(.ref (w 0))])) rfl rfl (hb hby d1_23)
  refine Goes.by st2 ?_
  show Goes p e below (T2.setTop (mkF m 26 #[.val (.ref (w 0)), .val (.int (0 : Int32)), .val (.int (0 : Int32))] [(.int (1 : Int32))])) _
  obtain ⟨fs, hr, hrun, hended, hW, hsame⟩ := X2.leave (v := some (.int (1 : Int32))) (fun h => by rw [Bd.returns] at h; cases h)
  exact ⟨_, _, retN X2 hx (t := .boolean) Bd.returns (by simp) (hb hby d1_26) hr, hrun, hended, _, _, rfl, ⟨rfl, N0, e2⟩, ⟨_, rfl⟩, hW, hsame.mono (by decide) (by decide)⟩
set_option maxRecDepth 65536 in
set_option maxHeartbeats 40000000 in
theorem r1_1 (l : Launch) (Z : State) (a0 : Array Value) (hw : ∀ d ∈ tables_1, d.before a0 Z = true) (ws : List Jvm.Cond) (h0 : Heap) (n0 : Nat) (Z0 : n0 ≤ h0.size) (w : Nat → Addr) (P : Pins Z h0 w) :
    MetFree l (⟨"com/example/entail/entail/model/Scope", "reaches", "(IZ)Z"⟩ : MethodName) (head1 (Jvm.Cond.code (⟨"com/example/entail/entail/model/Scope", "reaches", "(IZ)Z"⟩ : MethodName) prog_11_method_6_code 3 (some .boolean) :: ws) ({ frames := 0, cells := 0, slots := 0, locals := 0 } : Room)) (fun a U => a = #[(.ref (w 1)), (.int (0 : Int32)), (.int (0 : Int32))] ∧ Z.Warmed39 U.vm ∧ U.heap = h0) (fun _ _ _ _ _ => True) (fun _ U o U' => ∃ v L, o = .returned v ∧ QP (some (.int (1 : Int32))) h0 n0 v U'.heap L ∧ FrameEnd U o U' L ({ frames := 0, cells := 0, slots := 0, locals := 0 } : Room).cells ({ frames := 0, cells := 0, slots := 0, locals := 0 } : Room).slots) := by
  refine MetFree.of_bodySF (plainFor_of_name pn0) hisR ?_
  intro p e s m args below meth c s₁ Bd hml0 hP hK
  obtain ⟨rfl, hZ, hh⟩ := hP
  have hx := Bd.exec
  have hby := Bd.bytes
  have hml : c.maxLocals = 3 := hml0
  have hown : s.vm.findClass "com/example/entail/entail/model/Scope" = some m.cls := findClass_of_methodNamed Bd.named
  have hnm := (name_of_methodNamed Bd.named Bd.method).1
  have X0 : Stand p l e ({ frames := 0, cells := 0, slots := 0, locals := 0 } : Room) s m #[(.ref (w 1)), (.int (0 : Int32)), (.int (0 : Int32))] below meth c s₁ [] 0 0 := Stand.of_body Bd
  have e0 : s₁.heap = h0 := by rw [← hh, Bd.state]; rfl
  have N0 := Fr.nil n0
  refine Goes.out (Goes.by (fun tz kz => castTop (ef1_RII m ((w 1)) ((0 : Int32)) ((0 : Int32))) kz) ?_)
  show Goes p e below (s₁.setTop (mkF m 0 #[.val (.ref (w 1)), .val (.int (0 : Int32)), .val (.int (0 : Int32))] [])) _
  refine Goes.by (fun _ kz => XS.iloadN X0.here hx rfl (hb hby d1_0) rfl (XS.ifYes X0.here hx rfl (pc0 := 1) (pc' := 18) rfl (hb hby d1_1) rfl ((if0 _ _).trans (flt (by decide : ¬ ((0 : Int32) < (0 : Int32)))).2.1) (by decide) (by decide) (XS.iloadN X0.here hx rfl (hb hby d1_18) rfl kz))) ?_
  show Goes p e below (s₁.setTop (mkF m 19 #[.val (.ref (w 1)), .val (.int (0 : Int32)), .val (.int (0 : Int32))] [(.int (0 : Int32))])) _
  refine Goes.by (fun _ kz => XS.ifNo X0.here hx rfl (hb hby d1_19) rfl ((if0 _ _).trans (teq (by decide : (0 : Int32) = (0 : Int32))).2) (XS.aloadN X0.here hx rfl (hb hby d1_22) rfl rfl kz)) ?_
  obtain ⟨T5, X5, e5, st5⟩ := getF X0 hx hZ hown (host := "") (Or.inl (hw _ (List.mem_of_getElem? (i := 19) rfl))) Via.refl e0 P.2.2.2.2.2.2.2.2.2.2.2.2.2.2.2.2.2.2.2.2.2.2.2.2.2.2.2.2.2.2.2.2.2.2.2.2.2.1 (g := (mkF m 23 #[.val (.ref (w 1)), .val (.int (0 : Int32)), .val (.int (0 : Int32))] [(.ref (w 1))])) rfl rfl (hb hby d1_23)
  refine Goes.by st5 ?_
  show Goes p e below (T5.setTop (mkF m 26 #[.val (.ref (w 1)), .val (.int (0 : Int32)), .val (.int (0 : Int32))] [(.int (1 : Int32))])) _
  obtain ⟨fs, hr, hrun, hended, hW, hsame⟩ := X5.leave (v := some (.int (1 : Int32))) (fun h => by rw [Bd.returns] at h; cases h)
  exact ⟨_, _, retN X5 hx (t := .boolean) Bd.returns (by simp) (hb hby d1_26) hr, hrun, hended, _, _, rfl, ⟨rfl, N0, e5⟩, ⟨_, rfl⟩, hW, hsame.mono (by decide) (by decide)⟩
set_option maxRecDepth 65536 in
set_option maxHeartbeats 40000000 in
theorem r1_2 (l : Launch) (Z : State) (a0 : Array Value) (hw : ∀ d ∈ tables_1, d.before a0 Z = true) (ws : List Jvm.Cond) (h0 : Heap) (n0 : Nat) (Z0 : n0 ≤ h0.size) (w : Nat → Addr) (P : Pins Z h0 w) :
    MetFree l (⟨"com/example/entail/entail/model/Scope", "reaches", "(IZ)Z"⟩ : MethodName) (head1 (Jvm.Cond.code (⟨"com/example/entail/entail/model/Scope", "reaches", "(IZ)Z"⟩ : MethodName) prog_11_method_6_code 3 (some .boolean) :: ws) ({ frames := 0, cells := 0, slots := 0, locals := 0 } : Room)) (fun a U => a = #[(.ref (w 2)), (.int (0 : Int32)), (.int (0 : Int32))] ∧ Z.Warmed39 U.vm ∧ U.heap = h0) (fun _ _ _ _ _ => True) (fun _ U o U' => ∃ v L, o = .returned v ∧ QP (some (.int (1 : Int32))) h0 n0 v U'.heap L ∧ FrameEnd U o U' L ({ frames := 0, cells := 0, slots := 0, locals := 0 } : Room).cells ({ frames := 0, cells := 0, slots := 0, locals := 0 } : Room).slots) := by
  refine MetFree.of_bodySF (plainFor_of_name pn0) hisR ?_
  intro p e s m args below meth c s₁ Bd hml0 hP hK
  obtain ⟨rfl, hZ, hh⟩ := hP
  have hx := Bd.exec
  have hby := Bd.bytes
  have hml : c.maxLocals = 3 := hml0
  have hown : s.vm.findClass "com/example/entail/entail/model/Scope" = some m.cls := findClass_of_methodNamed Bd.named
  have hnm := (name_of_methodNamed Bd.named Bd.method).1
  have X0 : Stand p l e ({ frames := 0, cells := 0, slots := 0, locals := 0 } : Room) s m #[(.ref (w 2)), (.int (0 : Int32)), (.int (0 : Int32))] below meth c s₁ [] 0 0 := Stand.of_body Bd
  have e0 : s₁.heap = h0 := by rw [← hh, Bd.state]; rfl
  have N0 := Fr.nil n0
  refine Goes.out (Goes.by (fun tz kz => castTop (ef1_RII m ((w 2)) ((0 : Int32)) ((0 : Int32))) kz) ?_)
  show Goes p e below (s₁.setTop (mkF m 0 #[.val (.ref (w 2)), .val (.int (0 : Int32)), .val (.int (0 : Int32))] [])) _
  refine Goes.by (fun _ kz => XS.iloadN X0.here hx rfl (hb hby d1_0) rfl (XS.ifYes X0.here hx rfl (pc0 := 1) (pc' := 18) rfl (hb hby d1_1) rfl ((if0 _ _).trans (flt (by decide : ¬ ((0 : Int32) < (0 : Int32)))).2.1) (by decide) (by decide) (XS.iloadN X0.here hx rfl (hb hby d1_18) rfl kz))) ?_
  show Goes p e below (s₁.setTop (mkF m 19 #[.val (.ref (w 2)), .val (.int (0 : Int32)), .val (.int (0 : Int32))] [(.int (0 : Int32))])) _
  refine Goes.by (fun _ kz => XS.ifNo X0.here hx rfl (hb hby d1_19) rfl ((if0 _ _).trans (teq (by decide : (0 : Int32) = (0 : Int32))).2) (XS.aloadN X0.here hx rfl (hb hby d1_22) rfl rfl kz)) ?_
  obtain ⟨T8, X8, e8, st8⟩ := getF X0 hx hZ hown (host := "") (Or.inl (hw _ (List.mem_of_getElem? (i := 19) rfl))) Via.refl e0 P.2.2.2.2.2.2.2.2.2.2.2.2.2.2.2.2.2.2.2.2.2.2.2.2.2.2.2.2.2.2.2.2.2.2.2.2.2.2.2.2.2.2.2.2.2.2.1 (g := (mkF m 23 #[.val (.ref (w 2)), .val (.int (0 : Int32)), .val (.int (0 : Int32))] [(.ref (w 2))])) rfl rfl (hb hby d1_23)
  refine Goes.by st8 ?_
  show Goes p e below (T8.setTop (mkF m 26 #[.val (.ref (w 2)), .val (.int (0 : Int32)), .val (.int (0 : Int32))] [(.int (1 : Int32))])) _
  obtain ⟨fs, hr, hrun, hended, hW, hsame⟩ := X8.leave (v := some (.int (1 : Int32))) (fun h => by rw [Bd.returns] at h; cases h)
  exact ⟨_, _, retN X8 hx (t := .boolean) Bd.returns (by simp) (hb hby d1_26) hr, hrun, hended, _, _, rfl, ⟨rfl, N0, e8⟩, ⟨_, rfl⟩, hW, hsame.mono (by decide) (by decide)⟩
set_option maxRecDepth 65536 in
set_option maxHeartbeats 40000000 in
theorem r1_3 (l : Launch) (Z : State) (a0 : Array Value) (hw : ∀ d ∈ tables_1, d.before a0 Z = true) (ws : List Jvm.Cond) (h0 : Heap) (n0 : Nat) (Z0 : n0 ≤ h0.size) (w : Nat → Addr) (P : Pins Z h0 w) :
    MetFree l (⟨"com/example/entail/entail/model/Scope", "reaches", "(IZ)Z"⟩ : MethodName) (head1 (Jvm.Cond.code (⟨"com/example/entail/entail/model/Scope", "reaches", "(IZ)Z"⟩ : MethodName) prog_11_method_6_code 3 (some .boolean) :: ws) ({ frames := 0, cells := 0, slots := 0, locals := 0 } : Room)) (fun a U => a = #[(.ref (w 6)), (.int (0 : Int32)), (.int (0 : Int32))] ∧ Z.Warmed39 U.vm ∧ U.heap = h0) (fun _ _ _ _ _ => True) (fun _ U o U' => ∃ v L, o = .returned v ∧ QP (some (.int (0 : Int32))) h0 n0 v U'.heap L ∧ FrameEnd U o U' L ({ frames := 0, cells := 0, slots := 0, locals := 0 } : Room).cells ({ frames := 0, cells := 0, slots := 0, locals := 0 } : Room).slots) := by
  refine MetFree.of_bodySF (plainFor_of_name pn0) hisR ?_
  intro p e s m args below meth c s₁ Bd hml0 hP hK
  obtain ⟨rfl, hZ, hh⟩ := hP
  have hx := Bd.exec
  have hby := Bd.bytes
  have hml : c.maxLocals = 3 := hml0
  have hown : s.vm.findClass "com/example/entail/entail/model/Scope" = some m.cls := findClass_of_methodNamed Bd.named
  have hnm := (name_of_methodNamed Bd.named Bd.method).1
  have X0 : Stand p l e ({ frames := 0, cells := 0, slots := 0, locals := 0 } : Room) s m #[(.ref (w 6)), (.int (0 : Int32)), (.int (0 : Int32))] below meth c s₁ [] 0 0 := Stand.of_body Bd
  have e0 : s₁.heap = h0 := by rw [← hh, Bd.state]; rfl
  have N0 := Fr.nil n0
  refine Goes.out (Goes.by (fun tz kz => castTop (ef1_RII m ((w 6)) ((0 : Int32)) ((0 : Int32))) kz) ?_)
  show Goes p e below (s₁.setTop (mkF m 0 #[.val (.ref (w 6)), .val (.int (0 : Int32)), .val (.int (0 : Int32))] [])) _
  refine Goes.by (fun _ kz => XS.iloadN X0.here hx rfl (hb hby d1_0) rfl (XS.ifYes X0.here hx rfl (pc0 := 1) (pc' := 18) rfl (hb hby d1_1) rfl ((if0 _ _).trans (flt (by decide : ¬ ((0 : Int32) < (0 : Int32)))).2.1) (by decide) (by decide) (XS.iloadN X0.here hx rfl (hb hby d1_18) rfl kz))) ?_
  show Goes p e below (s₁.setTop (mkF m 19 #[.val (.ref (w 6)), .val (.int (0 : Int32)), .val (.int (0 : Int32))] [(.int (0 : Int32))])) _
  refine Goes.by (fun _ kz => XS.ifNo X0.here hx rfl (hb hby d1_19) rfl ((if0 _ _).trans (teq (by decide : (0 : Int32) = (0 : Int32))).2) (XS.aloadN X0.here hx rfl (hb hby d1_22) rfl rfl kz)) ?_
  obtain ⟨T11, X11, e11, st11⟩ := getF X0 hx hZ hown (host := "") (Or.inl (hw _ (List.mem_of_getElem? (i := 19) rfl))) Via.refl e0 P.2.2.2.2.2.2.2.2.2.2.2.2.2.2.2.2.2.2.2.2.2.2.2.2.2.2.2.2.2.2.2.2.2.2.2.2.2.2.2.2.2.2.2.2.1 (g := (mkF m 23 #[.val (.ref (w 6)), .val (.int (0 : Int32)), .val (.int (0 : Int32))] [(.ref (w 6))])) rfl rfl (hb hby d1_23)
  refine Goes.by st11 ?_
  show Goes p e below (T11.setTop (mkF m 26 #[.val (.ref (w 6)), .val (.int (0 : Int32)), .val (.int (0 : Int32))] [(.int (0 : Int32))])) _
  obtain ⟨fs, hr, hrun, hended, hW, hsame⟩ := X11.leave (v := some (.int (0 : Int32))) (fun h => by rw [Bd.returns] at h; cases h)
  exact ⟨_, _, retN X11 hx (t := .boolean) Bd.returns (by simp) (hb hby d1_26) hr, hrun, hended, _, _, rfl, ⟨rfl, N0, e11⟩, ⟨_, rfl⟩, hW, hsame.mono (by decide) (by decide)⟩
set_option maxRecDepth 65536 in
set_option maxHeartbeats 40000000 in
theorem r1_4 (l : Launch) (Z : State) (a0 : Array Value) (hw : ∀ d ∈ tables_1, d.before a0 Z = true) (ws : List Jvm.Cond) (h0 : Heap) (n0 : Nat) (Z0 : n0 ≤ h0.size) (w : Nat → Addr) (P : Pins Z h0 w) :
    MetFree l (⟨"com/example/entail/entail/model/Scope", "reaches", "(IZ)Z"⟩ : MethodName) (head1 (Jvm.Cond.code (⟨"com/example/entail/entail/model/Scope", "reaches", "(IZ)Z"⟩ : MethodName) prog_11_method_6_code 3 (some .boolean) :: ws) ({ frames := 0, cells := 0, slots := 0, locals := 0 } : Room)) (fun a U => a = #[(.ref (w 7)), (.int (0 : Int32)), (.int (0 : Int32))] ∧ Z.Warmed39 U.vm ∧ U.heap = h0) (fun _ _ _ _ _ => True) (fun _ U o U' => ∃ v L, o = .returned v ∧ QP (some (.int (0 : Int32))) h0 n0 v U'.heap L ∧ FrameEnd U o U' L ({ frames := 0, cells := 0, slots := 0, locals := 0 } : Room).cells ({ frames := 0, cells := 0, slots := 0, locals := 0 } : Room).slots) := by
  refine MetFree.of_bodySF (plainFor_of_name pn0) hisR ?_
  intro p e s m args below meth c s₁ Bd hml0 hP hK
  obtain ⟨rfl, hZ, hh⟩ := hP
  have hx := Bd.exec
  have hby := Bd.bytes
  have hml : c.maxLocals = 3 := hml0
  have hown : s.vm.findClass "com/example/entail/entail/model/Scope" = some m.cls := findClass_of_methodNamed Bd.named
  have hnm := (name_of_methodNamed Bd.named Bd.method).1
  have X0 : Stand p l e ({ frames := 0, cells := 0, slots := 0, locals := 0 } : Room) s m #[(.ref (w 7)), (.int (0 : Int32)), (.int (0 : Int32))] below meth c s₁ [] 0 0 := Stand.of_body Bd
  have e0 : s₁.heap = h0 := by rw [← hh, Bd.state]; rfl
  have N0 := Fr.nil n0
  refine Goes.out (Goes.by (fun tz kz => castTop (ef1_RII m ((w 7)) ((0 : Int32)) ((0 : Int32))) kz) ?_)
  show Goes p e below (s₁.setTop (mkF m 0 #[.val (.ref (w 7)), .val (.int (0 : Int32)), .val (.int (0 : Int32))] [])) _
  refine Goes.by (fun _ kz => XS.iloadN X0.here hx rfl (hb hby d1_0) rfl (XS.ifYes X0.here hx rfl (pc0 := 1) (pc' := 18) rfl (hb hby d1_1) rfl ((if0 _ _).trans (flt (by decide : ¬ ((0 : Int32) < (0 : Int32)))).2.1) (by decide) (by decide) (XS.iloadN X0.here hx rfl (hb hby d1_18) rfl kz))) ?_
  show Goes p e below (s₁.setTop (mkF m 19 #[.val (.ref (w 7)), .val (.int (0 : Int32)), .val (.int (0 : Int32))] [(.int (0 : Int32))])) _
  refine Goes.by (fun _ kz => XS.ifNo X0.here hx rfl (hb hby d1_19) rfl ((if0 _ _).trans (teq (by decide : (0 : Int32) = (0 : Int32))).2) (XS.aloadN X0.here hx rfl (hb hby d1_22) rfl rfl kz)) ?_
  obtain ⟨T14, X14, e14, st14⟩ := getF X0 hx hZ hown (host := "") (Or.inl (hw _ (List.mem_of_getElem? (i := 19) rfl))) Via.refl e0 P.2.2.2.2.2.2.2.2.2.2.2.2.2.2.2.2.2.2.2.2.2.2.2.2.2.2.2.2.2.2.2.2.2.2.2.2.1 (g := (mkF m 23 #[.val (.ref (w 7)), .val (.int (0 : Int32)), .val (.int (0 : Int32))] [(.ref (w 7))])) rfl rfl (hb hby d1_23)
  refine Goes.by st14 ?_
  show Goes p e below (T14.setTop (mkF m 26 #[.val (.ref (w 7)), .val (.int (0 : Int32)), .val (.int (0 : Int32))] [(.int (0 : Int32))])) _
  obtain ⟨fs, hr, hrun, hended, hW, hsame⟩ := X14.leave (v := some (.int (0 : Int32))) (fun h => by rw [Bd.returns] at h; cases h)
  exact ⟨_, _, retN X14 hx (t := .boolean) Bd.returns (by simp) (hb hby d1_26) hr, hrun, hended, _, _, rfl, ⟨rfl, N0, e14⟩, ⟨_, rfl⟩, hW, hsame.mono (by decide) (by decide)⟩
set_option maxRecDepth 65536 in
set_option maxHeartbeats 40000000 in
theorem r1_5 (l : Launch) (Z : State) (a0 : Array Value) (hw : ∀ d ∈ tables_1, d.before a0 Z = true) (ws : List Jvm.Cond) (h0 : Heap) (n0 : Nat) (Z0 : n0 ≤ h0.size) (w : Nat → Addr) (P : Pins Z h0 w) :
    MetFree l (⟨"com/example/entail/entail/model/Scope", "reaches", "(IZ)Z"⟩ : MethodName) (head1 (Jvm.Cond.code (⟨"com/example/entail/entail/model/Scope", "reaches", "(IZ)Z"⟩ : MethodName) prog_11_method_6_code 3 (some .boolean) :: ws) ({ frames := 0, cells := 0, slots := 0, locals := 0 } : Room)) (fun a U => a = #[(.ref (w 8)), (.int (0 : Int32)), (.int (0 : Int32))] ∧ Z.Warmed39 U.vm ∧ U.heap = h0) (fun _ _ _ _ _ => True) (fun _ U o U' => ∃ v L, o = .returned v ∧ QP (some (.int (0 : Int32))) h0 n0 v U'.heap L ∧ FrameEnd U o U' L ({ frames := 0, cells := 0, slots := 0, locals := 0 } : Room).cells ({ frames := 0, cells := 0, slots := 0, locals := 0 } : Room).slots) := by
  refine MetFree.of_bodySF (plainFor_of_name pn0) hisR ?_
  intro p e s m args below meth c s₁ Bd hml0 hP hK
  obtain ⟨rfl, hZ, hh⟩ := hP
  have hx := Bd.exec
  have hby := Bd.bytes
  have hml : c.maxLocals = 3 := hml0
  have hown : s.vm.findClass "com/example/entail/entail/model/Scope" = some m.cls := findClass_of_methodNamed Bd.named
  have hnm := (name_of_methodNamed Bd.named Bd.method).1
  have X0 : Stand p l e ({ frames := 0, cells := 0, slots := 0, locals := 0 } : Room) s m #[(.ref (w 8)), (.int (0 : Int32)), (.int (0 : Int32))] below meth c s₁ [] 0 0 := Stand.of_body Bd
  have e0 : s₁.heap = h0 := by rw [← hh, Bd.state]; rfl
  have N0 := Fr.nil n0
  refine Goes.out (Goes.by (fun tz kz => castTop (ef1_RII m ((w 8)) ((0 : Int32)) ((0 : Int32))) kz) ?_)
  show Goes p e below (s₁.setTop (mkF m 0 #[.val (.ref (w 8)), .val (.int (0 : Int32)), .val (.int (0 : Int32))] [])) _
  refine Goes.by (fun _ kz => XS.iloadN X0.here hx rfl (hb hby d1_0) rfl (XS.ifYes X0.here hx rfl (pc0 := 1) (pc' := 18) rfl (hb hby d1_1) rfl ((if0 _ _).trans (flt (by decide : ¬ ((0 : Int32) < (0 : Int32)))).2.1) (by decide) (by decide) (XS.iloadN X0.here hx rfl (hb hby d1_18) rfl kz))) ?_
  show Goes p e below (s₁.setTop (mkF m 19 #[.val (.ref (w 8)), .val (.int (0 : Int32)), .val (.int (0 : Int32))] [(.int (0 : Int32))])) _
  refine Goes.by (fun _ kz => XS.ifNo X0.here hx rfl (hb hby d1_19) rfl ((if0 _ _).trans (teq (by decide : (0 : Int32) = (0 : Int32))).2) (XS.aloadN X0.here hx rfl (hb hby d1_22) rfl rfl kz)) ?_
  obtain ⟨T17, X17, e17, st17⟩ := getF X0 hx hZ hown (host := "") (Or.inl (hw _ (List.mem_of_getElem? (i := 19) rfl))) Via.refl e0 P.2.2.2.2.2.2.2.2.2.2.2.2.2.2.2.2.2.2.2.2.2.2.2.2.2.2.2.2.2.2.2.2.2.2.2.2.2.2.2.2.2.2.2.2.2.2.2.2.2.2.2.2.2.2.2.2.1 (g := (mkF m 23 #[.val (.ref (w 8)), .val (.int (0 : Int32)), .val (.int (0 : Int32))] [(.ref (w 8))])) rfl rfl (hb hby d1_23)
  refine Goes.by st17 ?_
  show Goes p e below (T17.setTop (mkF m 26 #[.val (.ref (w 8)), .val (.int (0 : Int32)), .val (.int (0 : Int32))] [(.int (0 : Int32))])) _
  obtain ⟨fs, hr, hrun, hended, hW, hsame⟩ := X17.leave (v := some (.int (0 : Int32))) (fun h => by rw [Bd.returns] at h; cases h)
  exact ⟨_, _, retN X17 hx (t := .boolean) Bd.returns (by simp) (hb hby d1_26) hr, hrun, hended, _, _, rfl, ⟨rfl, N0, e17⟩, ⟨_, rfl⟩, hW, hsame.mono (by decide) (by decide)⟩
set_option maxRecDepth 65536 in
set_option maxHeartbeats 40000000 in
theorem r1_6 (l : Launch) (Z : State) (a0 : Array Value) (hw : ∀ d ∈ tables_1, d.before a0 Z = true) (ws : List Jvm.Cond) (h0 : Heap) (n0 : Nat) (Z0 : n0 ≤ h0.size) (w : Nat → Addr) (P : Pins Z h0 w) :
    MetFree l (⟨"com/example/entail/entail/model/Scope", "reaches", "(IZ)Z"⟩ : MethodName) (head1 (Jvm.Cond.code (⟨"com/example/entail/entail/model/Scope", "reaches", "(IZ)Z"⟩ : MethodName) prog_11_method_6_code 3 (some .boolean) :: ws) ({ frames := 0, cells := 0, slots := 0, locals := 0 } : Room)) (fun a U => a = #[(.ref (w 4)), (.int (0 : Int32)), (.int (0 : Int32))] ∧ Z.Warmed39 U.vm ∧ U.heap = h0) (fun _ _ _ _ _ => True) (fun _ U o U' => ∃ v L, o = .returned v ∧ QP (some (.int (0 : Int32))) h0 n0 v U'.heap L ∧ FrameEnd U o U' L ({ frames := 0, cells := 0, slots := 0, locals := 0 } : Room).cells ({ frames := 0, cells := 0, slots := 0, locals := 0 } : Room).slots) := by
  refine MetFree.of_bodySF (plainFor_of_name pn0) hisR ?_
  intro p e s m args below meth c s₁ Bd hml0 hP hK
  obtain ⟨rfl, hZ, hh⟩ := hP
  have hx := Bd.exec
  have hby := Bd.bytes
  have hml : c.maxLocals = 3 := hml0
  have hown : s.vm.findClass "com/example/entail/entail/model/Scope" = some m.cls := findClass_of_methodNamed Bd.named
  have hnm := (name_of_methodNamed Bd.named Bd.method).1
  have X0 : Stand p l e ({ frames := 0, cells := 0, slots := 0, locals := 0 } : Room) s m #[(.ref (w 4)), (.int (0 : Int32)), (.int (0 : Int32))] below meth c s₁ [] 0 0 := Stand.of_body Bd
  have e0 : s₁.heap = h0 := by rw [← hh, Bd.state]; rfl
  have N0 := Fr.nil n0
  refine Goes.out (Goes.by (fun tz kz => castTop (ef1_RII m ((w 4)) ((0 : Int32)) ((0 : Int32))) kz) ?_)
  show Goes p e below (s₁.setTop (mkF m 0 #[.val (.ref (w 4)), .val (.int (0 : Int32)), .val (.int (0 : Int32))] [])) _
  refine Goes.by (fun _ kz => XS.iloadN X0.here hx rfl (hb hby d1_0) rfl (XS.ifYes X0.here hx rfl (pc0 := 1) (pc' := 18) rfl (hb hby d1_1) rfl ((if0 _ _).trans (flt (by decide : ¬ ((0 : Int32) < (0 : Int32)))).2.1) (by decide) (by decide) (XS.iloadN X0.here hx rfl (hb hby d1_18) rfl kz))) ?_
  show Goes p e below (s₁.setTop (mkF m 19 #[.val (.ref (w 4)), .val (.int (0 : Int32)), .val (.int (0 : Int32))] [(.int (0 : Int32))])) _
  refine Goes.by (fun _ kz => XS.ifNo X0.here hx rfl (hb hby d1_19) rfl ((if0 _ _).trans (teq (by decide : (0 : Int32) = (0 : Int32))).2) (XS.aloadN X0.here hx rfl (hb hby d1_22) rfl rfl kz)) ?_
  obtain ⟨T20, X20, e20, st20⟩ := getF X0 hx hZ hown (host := "") (Or.inl (hw _ (List.mem_of_getElem? (i := 19) rfl))) Via.refl e0 P.2.2.2.2.2.2.2.2.2.2.2.2.2.2.2.2.2.2.2.2.2.2.2.2.2.2.2.2.2.2.2.2.2.2.2.2.2.2.2.2.2.2.2.2.2.2.2.2.2.1 (g := (mkF m 23 #[.val (.ref (w 4)), .val (.int (0 : Int32)), .val (.int (0 : Int32))] [(.ref (w 4))])) rfl rfl (hb hby d1_23)
  refine Goes.by st20 ?_
  show Goes p e below (T20.setTop (mkF m 26 #[.val (.ref (w 4)), .val (.int (0 : Int32)), .val (.int (0 : Int32))] [(.int (0 : Int32))])) _
  obtain ⟨fs, hr, hrun, hended, hW, hsame⟩ := X20.leave (v := some (.int (0 : Int32))) (fun h => by rw [Bd.returns] at h; cases h)
  exact ⟨_, _, retN X20 hx (t := .boolean) Bd.returns (by simp) (hb hby d1_26) hr, hrun, hended, _, _, rfl, ⟨rfl, N0, e20⟩, ⟨_, rfl⟩, hW, hsame.mono (by decide) (by decide)⟩
set_option maxRecDepth 65536 in
set_option maxHeartbeats 40000000 in
theorem r1_7 (l : Launch) (Z : State) (a0 : Array Value) (hw : ∀ d ∈ tables_1, d.before a0 Z = true) (ws : List Jvm.Cond) (h0 : Heap) (n0 : Nat) (Z0 : n0 ≤ h0.size) (w : Nat → Addr) (P : Pins Z h0 w) :
    MetFree l (⟨"com/example/entail/entail/model/Scope", "reaches", "(IZ)Z"⟩ : MethodName) (head1 (Jvm.Cond.code (⟨"com/example/entail/entail/model/Scope", "reaches", "(IZ)Z"⟩ : MethodName) prog_11_method_6_code 3 (some .boolean) :: ws) ({ frames := 0, cells := 0, slots := 0, locals := 0 } : Room)) (fun a U => a = #[(.ref (w 5)), (.int (0 : Int32)), (.int (0 : Int32))] ∧ Z.Warmed39 U.vm ∧ U.heap = h0) (fun _ _ _ _ _ => True) (fun _ U o U' => ∃ v L, o = .returned v ∧ QP (some (.int (0 : Int32))) h0 n0 v U'.heap L ∧ FrameEnd U o U' L ({ frames := 0, cells := 0, slots := 0, locals := 0 } : Room).cells ({ frames := 0, cells := 0, slots := 0, locals := 0 } : Room).slots) := by
  refine MetFree.of_bodySF (plainFor_of_name pn0) hisR ?_
  intro p e s m args below meth c s₁ Bd hml0 hP hK
  obtain ⟨rfl, hZ, hh⟩ := hP
  have hx := Bd.exec
  have hby := Bd.bytes
  have hml : c.maxLocals = 3 := hml0
  have hown : s.vm.findClass "com/example/entail/entail/model/Scope" = some m.cls := findClass_of_methodNamed Bd.named
  have hnm := (name_of_methodNamed Bd.named Bd.method).1
  have X0 : Stand p l e ({ frames := 0, cells := 0, slots := 0, locals := 0 } : Room) s m #[(.ref (w 5)), (.int (0 : Int32)), (.int (0 : Int32))] below meth c s₁ [] 0 0 := Stand.of_body Bd
  have e0 : s₁.heap = h0 := by rw [← hh, Bd.state]; rfl
  have N0 := Fr.nil n0
  refine Goes.out (Goes.by (fun tz kz => castTop (ef1_RII m ((w 5)) ((0 : Int32)) ((0 : Int32))) kz) ?_)
  show Goes p e below (s₁.setTop (mkF m 0 #[.val (.ref (w 5)), .val (.int (0 : Int32)), .val (.int (0 : Int32))] [])) _
  refine Goes.by (fun _ kz => XS.iloadN X0.here hx rfl (hb hby d1_0) rfl (XS.ifYes X0.here hx rfl (pc0 := 1) (pc' := 18) rfl (hb hby d1_1) rfl ((if0 _ _).trans (flt (by decide : ¬ ((0 : Int32) < (0 : Int32)))).2.1) (by decide) (by decide) (XS.iloadN X0.here hx rfl (hb hby d1_18) rfl kz))) ?_
  show Goes p e below (s₁.setTop (mkF m 19 #[.val (.ref (w 5)), .val (.int (0 : Int32)), .val (.int (0 : Int32))] [(.int (0 : Int32))])) _
  refine Goes.by (fun _ kz => XS.ifNo X0.here hx rfl (hb hby d1_19) rfl ((if0 _ _).trans (teq (by decide : (0 : Int32) = (0 : Int32))).2) (XS.aloadN X0.here hx rfl (hb hby d1_22) rfl rfl kz)) ?_
  obtain ⟨T23, X23, e23, st23⟩ := getF X0 hx hZ hown (host := "") (Or.inl (hw _ (List.mem_of_getElem? (i := 19) rfl))) Via.refl e0 P.2.2.2.2.2.2.2.2.2.2.2.2.2.2.2.2.2.2.2.2.2.2.2.2.2.2.2.2.2.2.2.2.2.2.2.2.2.2.2.2.2.2.2.2.2.2.2.2.2.2.2.2.2.2.2.2.2.1 (g := (mkF m 23 #[.val (.ref (w 5)), .val (.int (0 : Int32)), .val (.int (0 : Int32))] [(.ref (w 5))])) rfl rfl (hb hby d1_23)
  refine Goes.by st23 ?_
  show Goes p e below (T23.setTop (mkF m 26 #[.val (.ref (w 5)), .val (.int (0 : Int32)), .val (.int (0 : Int32))] [(.int (0 : Int32))])) _
  obtain ⟨fs, hr, hrun, hended, hW, hsame⟩ := X23.leave (v := some (.int (0 : Int32))) (fun h => by rw [Bd.returns] at h; cases h)
  exact ⟨_, _, retN X23 hx (t := .boolean) Bd.returns (by simp) (hb hby d1_26) hr, hrun, hended, _, _, rfl, ⟨rfl, N0, e23⟩, ⟨_, rfl⟩, hW, hsame.mono (by decide) (by decide)⟩
set_option maxRecDepth 65536 in
set_option maxHeartbeats 40000000 in
theorem r1_8 (l : Launch) (Z : State) (a0 : Array Value) (hw : ∀ d ∈ tables_1, d.before a0 Z = true) (ws : List Jvm.Cond) (h0 : Heap) (n0 : Nat) (Z0 : n0 ≤ h0.size) (w : Nat → Addr) (P : Pins Z h0 w) :
    MetFree l (⟨"com/example/entail/entail/model/Scope", "reaches", "(IZ)Z"⟩ : MethodName) (head1 (Jvm.Cond.code (⟨"com/example/entail/entail/model/Scope", "reaches", "(IZ)Z"⟩ : MethodName) prog_11_method_6_code 3 (some .boolean) :: ws) ({ frames := 0, cells := 0, slots := 0, locals := 0 } : Room)) (fun a U => a = #[(.ref (w 3)), (.int (0 : Int32)), (.int (0 : Int32))] ∧ Z.Warmed39 U.vm ∧ U.heap = h0) (fun _ _ _ _ _ => True) (fun _ U o U' => ∃ v L, o = .returned v ∧ QP (some (.int (1 : Int32))) h0 n0 v U'.heap L ∧ FrameEnd U o U' L ({ frames := 0, cells := 0, slots := 0, locals := 0 } : Room).cells ({ frames := 0, cells := 0, slots := 0, locals := 0 } : Room).slots) := by
  refine MetFree.of_bodySF (plainFor_of_name pn0) hisR ?_
  intro p e s m args below meth c s₁ Bd hml0 hP hK
  obtain ⟨rfl, hZ, hh⟩ := hP
  have hx := Bd.exec
  have hby := Bd.bytes
  have hml : c.maxLocals = 3 := hml0
  have hown : s.vm.findClass "com/example/entail/entail/model/Scope" = some m.cls := findClass_of_methodNamed Bd.named
  have hnm := (name_of_methodNamed Bd.named Bd.method).1
  have X0 : Stand p l e ({ frames := 0, cells := 0, slots := 0, locals := 0 } : Room) s m #[(.ref (w 3)), (.int (0 : Int32)), (.int (0 : Int32))] below meth c s₁ [] 0 0 := Stand.of_body Bd
  have e0 : s₁.heap = h0 := by rw [← hh, Bd.state]; rfl
  have N0 := Fr.nil n0
  refine Goes.out (Goes.by (fun tz kz => castTop (ef1_RII m ((w 3)) ((0 : Int32)) ((0 : Int32))) kz) ?_)
  show Goes p e below (s₁.setTop (mkF m 0 #[.val (.ref (w 3)), .val (.int (0 : Int32)), .val (.int (0 : Int32))] [])) _
  refine Goes.by (fun _ kz => XS.iloadN X0.here hx rfl (hb hby d1_0) rfl (XS.ifYes X0.here hx rfl (pc0 := 1) (pc' := 18) rfl (hb hby d1_1) rfl ((if0 _ _).trans (flt (by decide : ¬ ((0 : Int32) < (0 : Int32)))).2.1) (by decide) (by decide) (XS.iloadN X0.here hx rfl (hb hby d1_18) rfl kz))) ?_
  show Goes p e below (s₁.setTop (mkF m 19 #[.val (.ref (w 3)), .val (.int (0 : Int32)), .val (.int (0 : Int32))] [(.int (0 : Int32))])) _
  refine Goes.by (fun _ kz => XS.ifNo X0.here hx rfl (hb hby d1_19) rfl ((if0 _ _).trans (teq (by decide : (0 : Int32) = (0 : Int32))).2) (XS.aloadN X0.here hx rfl (hb hby d1_22) rfl rfl kz)) ?_
  obtain ⟨T26, X26, e26, st26⟩ := getF X0 hx hZ hown (host := "") (Or.inl (hw _ (List.mem_of_getElem? (i := 19) rfl))) Via.refl e0 P.2.2.2.2.2.2.2.2.2.2.2.2.2.2.2.2.2.2.2.2.2.2.1 (g := (mkF m 23 #[.val (.ref (w 3)), .val (.int (0 : Int32)), .val (.int (0 : Int32))] [(.ref (w 3))])) rfl rfl (hb hby d1_23)
  refine Goes.by st26 ?_
  show Goes p e below (T26.setTop (mkF m 26 #[.val (.ref (w 3)), .val (.int (0 : Int32)), .val (.int (0 : Int32))] [(.int (1 : Int32))])) _
  obtain ⟨fs, hr, hrun, hended, hW, hsame⟩ := X26.leave (v := some (.int (1 : Int32))) (fun h => by rw [Bd.returns] at h; cases h)
  exact ⟨_, _, retN X26 hx (t := .boolean) Bd.returns (by simp) (hb hby d1_26) hr, hrun, hended, _, _, rfl, ⟨rfl, N0, e26⟩, ⟨_, rfl⟩, hW, hsame.mono (by decide) (by decide)⟩
set_option maxRecDepth 65536 in
set_option maxHeartbeats 40000000 in
theorem r1_9 (l : Launch) (Z : State) (a0 : Array Value) (hw : ∀ d ∈ tables_1, d.before a0 Z = true) (ws : List Jvm.Cond) (h0 : Heap) (n0 : Nat) (Z0 : n0 ≤ h0.size) (w : Nat → Addr) (P : Pins Z h0 w) :
    MetFree l (⟨"com/example/entail/entail/model/Scope", "reaches", "(IZ)Z"⟩ : MethodName) (head1 (Jvm.Cond.code (⟨"com/example/entail/entail/model/Scope", "reaches", "(IZ)Z"⟩ : MethodName) prog_11_method_6_code 3 (some .boolean) :: ws) ({ frames := 0, cells := 0, slots := 0, locals := 0 } : Room)) (fun a U => a = #[(.ref (w 0)), (.int (0 : Int32)), (.int (1 : Int32))] ∧ Z.Warmed39 U.vm ∧ U.heap = h0) (fun _ _ _ _ _ => True) (fun _ U o U' => ∃ v L, o = .returned v ∧ QP (some (.int (1 : Int32))) h0 n0 v U'.heap L ∧ FrameEnd U o U' L ({ frames := 0, cells := 0, slots := 0, locals := 0 } : Room).cells ({ frames := 0, cells := 0, slots := 0, locals := 0 } : Room).slots) := by
  refine MetFree.of_bodySF (plainFor_of_name pn0) hisR ?_
  intro p e s m args below meth c s₁ Bd hml0 hP hK
  obtain ⟨rfl, hZ, hh⟩ := hP
  have hx := Bd.exec
  have hby := Bd.bytes
  have hml : c.maxLocals = 3 := hml0
  have hown : s.vm.findClass "com/example/entail/entail/model/Scope" = some m.cls := findClass_of_methodNamed Bd.named
  have hnm := (name_of_methodNamed Bd.named Bd.method).1
  have X0 : Stand p l e ({ frames := 0, cells := 0, slots := 0, locals := 0 } : Room) s m #[(.ref (w 0)), (.int (0 : Int32)), (.int (1 : Int32))] below meth c s₁ [] 0 0 := Stand.of_body Bd
  have e0 : s₁.heap = h0 := by rw [← hh, Bd.state]; rfl
  have N0 := Fr.nil n0
  refine Goes.out (Goes.by (fun tz kz => castTop (ef1_RII m ((w 0)) ((0 : Int32)) ((1 : Int32))) kz) ?_)
  show Goes p e below (s₁.setTop (mkF m 0 #[.val (.ref (w 0)), .val (.int (0 : Int32)), .val (.int (1 : Int32))] [])) _
  refine Goes.by (fun _ kz => XS.iloadN X0.here hx rfl (hb hby d1_0) rfl (XS.ifYes X0.here hx rfl (pc0 := 1) (pc' := 18) rfl (hb hby d1_1) rfl ((if0 _ _).trans (flt (by decide : ¬ ((0 : Int32) < (0 : Int32)))).2.1) (by decide) (by decide) (XS.iloadN X0.here hx rfl (hb hby d1_18) rfl kz))) ?_
  show Goes p e below (s₁.setTop (mkF m 19 #[.val (.ref (w 0)), .val (.int (0 : Int32)), .val (.int (1 : Int32))] [(.int (0 : Int32))])) _
  refine Goes.by (fun _ kz => XS.ifNo X0.here hx rfl (hb hby d1_19) rfl ((if0 _ _).trans (teq (by decide : (0 : Int32) = (0 : Int32))).2) (XS.aloadN X0.here hx rfl (hb hby d1_22) rfl rfl kz)) ?_
  obtain ⟨T29, X29, e29, st29⟩ := getF X0 hx hZ hown (host := "") (Or.inl (hw _ (List.mem_of_getElem? (i := 19) rfl))) Via.refl e0 P.2.2.2.2.2.2.2.2.2.2.2.2.2.2.2.2.2.2.2.2.2.2.2.2.2.2.2.2.2.2.2.2.2.2.2.2.2.2.2.1 (g := (mkF m 23 #[.val (.ref (w 0)), .val (.int (0 : Int32)), .val (.int (1 : Int32))] [(.ref (w 0))])) rfl rfl (hb hby d1_23)
  refine Goes.by st29 ?_
  show Goes p e below (T29.setTop (mkF m 26 #[.val (.ref (w 0)), .val (.int (0 : Int32)), .val (.int (1 : Int32))] [(.int (1 : Int32))])) _
  obtain ⟨fs, hr, hrun, hended, hW, hsame⟩ := X29.leave (v := some (.int (1 : Int32))) (fun h => by rw [Bd.returns] at h; cases h)
  exact ⟨_, _, retN X29 hx (t := .boolean) Bd.returns (by simp) (hb hby d1_26) hr, hrun, hended, _, _, rfl, ⟨rfl, N0, e29⟩, ⟨_, rfl⟩, hW, hsame.mono (by decide) (by decide)⟩
set_option maxRecDepth 65536 in
set_option maxHeartbeats 40000000 in
theorem r1_10 (l : Launch) (Z : State) (a0 : Array Value) (hw : ∀ d ∈ tables_1, d.before a0 Z = true) (ws : List Jvm.Cond) (h0 : Heap) (n0 : Nat) (Z0 : n0 ≤ h0.size) (w : Nat → Addr) (P : Pins Z h0 w) :
    MetFree l (⟨"com/example/entail/entail/model/Scope", "reaches", "(IZ)Z"⟩ : MethodName) (head1 (Jvm.Cond.code (⟨"com/example/entail/entail/model/Scope", "reaches", "(IZ)Z"⟩ : MethodName) prog_11_method_6_code 3 (some .boolean) :: ws) ({ frames := 0, cells := 0, slots := 0, locals := 0 } : Room)) (fun a U => a = #[(.ref (w 1)), (.int (0 : Int32)), (.int (1 : Int32))] ∧ Z.Warmed39 U.vm ∧ U.heap = h0) (fun _ _ _ _ _ => True) (fun _ U o U' => ∃ v L, o = .returned v ∧ QP (some (.int (1 : Int32))) h0 n0 v U'.heap L ∧ FrameEnd U o U' L ({ frames := 0, cells := 0, slots := 0, locals := 0 } : Room).cells ({ frames := 0, cells := 0, slots := 0, locals := 0 } : Room).slots) := by
  refine MetFree.of_bodySF (plainFor_of_name pn0) hisR ?_
  intro p e s m args below meth c s₁ Bd hml0 hP hK
  obtain ⟨rfl, hZ, hh⟩ := hP
  have hx := Bd.exec
  have hby := Bd.bytes
  have hml : c.maxLocals = 3 := hml0
  have hown : s.vm.findClass "com/example/entail/entail/model/Scope" = some m.cls := findClass_of_methodNamed Bd.named
  have hnm := (name_of_methodNamed Bd.named Bd.method).1
  have X0 : Stand p l e ({ frames := 0, cells := 0, slots := 0, locals := 0 } : Room) s m #[(.ref (w 1)), (.int (0 : Int32)), (.int (1 : Int32))] below meth c s₁ [] 0 0 := Stand.of_body Bd
  have e0 : s₁.heap = h0 := by rw [← hh, Bd.state]; rfl
  have N0 := Fr.nil n0
  refine Goes.out (Goes.by (fun tz kz => castTop (ef1_RII m ((w 1)) ((0 : Int32)) ((1 : Int32))) kz) ?_)
  show Goes p e below (s₁.setTop (mkF m 0 #[.val (.ref (w 1)), .val (.int (0 : Int32)), .val (.int (1 : Int32))] [])) _
  refine Goes.by (fun _ kz => XS.iloadN X0.here hx rfl (hb hby d1_0) rfl (XS.ifYes X0.here hx rfl (pc0 := 1) (pc' := 18) rfl (hb hby d1_1) rfl ((if0 _ _).trans (flt (by decide : ¬ ((0 : Int32) < (0 : Int32)))).2.1) (by decide) (by decide) (XS.iloadN X0.here hx rfl (hb hby d1_18) rfl kz))) ?_
  show Goes p e below (s₁.setTop (mkF m 19 #[.val (.ref (w 1)), .val (.int (0 : Int32)), .val (.int (1 : Int32))] [(.int (0 : Int32))])) _
  refine Goes.by (fun _ kz => XS.ifNo X0.here hx rfl (hb hby d1_19) rfl ((if0 _ _).trans (teq (by decide : (0 : Int32) = (0 : Int32))).2) (XS.aloadN X0.here hx rfl (hb hby d1_22) rfl rfl kz)) ?_
  obtain ⟨T32, X32, e32, st32⟩ := getF X0 hx hZ hown (host := "") (Or.inl (hw _ (List.mem_of_getElem? (i := 19) rfl))) Via.refl e0 P.2.2.2.2.2.2.2.2.2.2.2.2.2.2.2.2.2.2.2.2.2.2.2.2.2.2.2.2.2.2.2.2.2.2.2.2.2.1 (g := (mkF m 23 #[.val (.ref (w 1)), .val (.int (0 : Int32)), .val (.int (1 : Int32))] [(.ref (w 1))])) rfl rfl (hb hby d1_23)
  refine Goes.by st32 ?_
  show Goes p e below (T32.setTop (mkF m 26 #[.val (.ref (w 1)), .val (.int (0 : Int32)), .val (.int (1 : Int32))] [(.int (1 : Int32))])) _
  obtain ⟨fs, hr, hrun, hended, hW, hsame⟩ := X32.leave (v := some (.int (1 : Int32))) (fun h => by rw [Bd.returns] at h; cases h)
  exact ⟨_, _, retN X32 hx (t := .boolean) Bd.returns (by simp) (hb hby d1_26) hr, hrun, hended, _, _, rfl, ⟨rfl, N0, e32⟩, ⟨_, rfl⟩, hW, hsame.mono (by decide) (by decide)⟩
set_option maxRecDepth 65536 in
set_option maxHeartbeats 40000000 in
theorem r1_11 (l : Launch) (Z : State) (a0 : Array Value) (hw : ∀ d ∈ tables_1, d.before a0 Z = true) (ws : List Jvm.Cond) (h0 : Heap) (n0 : Nat) (Z0 : n0 ≤ h0.size) (w : Nat → Addr) (P : Pins Z h0 w) :
    MetFree l (⟨"com/example/entail/entail/model/Scope", "reaches", "(IZ)Z"⟩ : MethodName) (head1 (Jvm.Cond.code (⟨"com/example/entail/entail/model/Scope", "reaches", "(IZ)Z"⟩ : MethodName) prog_11_method_6_code 3 (some .boolean) :: ws) ({ frames := 0, cells := 0, slots := 0, locals := 0 } : Room)) (fun a U => a = #[(.ref (w 2)), (.int (0 : Int32)), (.int (1 : Int32))] ∧ Z.Warmed39 U.vm ∧ U.heap = h0) (fun _ _ _ _ _ => True) (fun _ U o U' => ∃ v L, o = .returned v ∧ QP (some (.int (1 : Int32))) h0 n0 v U'.heap L ∧ FrameEnd U o U' L ({ frames := 0, cells := 0, slots := 0, locals := 0 } : Room).cells ({ frames := 0, cells := 0, slots := 0, locals := 0 } : Room).slots) := by
  refine MetFree.of_bodySF (plainFor_of_name pn0) hisR ?_
  intro p e s m args below meth c s₁ Bd hml0 hP hK
  obtain ⟨rfl, hZ, hh⟩ := hP
  have hx := Bd.exec
  have hby := Bd.bytes
  have hml : c.maxLocals = 3 := hml0
  have hown : s.vm.findClass "com/example/entail/entail/model/Scope" = some m.cls := findClass_of_methodNamed Bd.named
  have hnm := (name_of_methodNamed Bd.named Bd.method).1
  have X0 : Stand p l e ({ frames := 0, cells := 0, slots := 0, locals := 0 } : Room) s m #[(.ref (w 2)), (.int (0 : Int32)), (.int (1 : Int32))] below meth c s₁ [] 0 0 := Stand.of_body Bd
  have e0 : s₁.heap = h0 := by rw [← hh, Bd.state]; rfl
  have N0 := Fr.nil n0
  refine Goes.out (Goes.by (fun tz kz => castTop (ef1_RII m ((w 2)) ((0 : Int32)) ((1 : Int32))) kz) ?_)
  show Goes p e below (s₁.setTop (mkF m 0 #[.val (.ref (w 2)), .val (.int (0 : Int32)), .val (.int (1 : Int32))] [])) _
  refine Goes.by (fun _ kz => XS.iloadN X0.here hx rfl (hb hby d1_0) rfl (XS.ifYes X0.here hx rfl (pc0 := 1) (pc' := 18) rfl (hb hby d1_1) rfl ((if0 _ _).trans (flt (by decide : ¬ ((0 : Int32) < (0 : Int32)))).2.1) (by decide) (by decide) (XS.iloadN X0.here hx rfl (hb hby d1_18) rfl kz))) ?_
  show Goes p e below (s₁.setTop (mkF m 19 #[.val (.ref (w 2)), .val (.int (0 : Int32)), .val (.int (1 : Int32))] [(.int (0 : Int32))])) _
  refine Goes.by (fun _ kz => XS.ifNo X0.here hx rfl (hb hby d1_19) rfl ((if0 _ _).trans (teq (by decide : (0 : Int32) = (0 : Int32))).2) (XS.aloadN X0.here hx rfl (hb hby d1_22) rfl rfl kz)) ?_
  obtain ⟨T35, X35, e35, st35⟩ := getF X0 hx hZ hown (host := "") (Or.inl (hw _ (List.mem_of_getElem? (i := 19) rfl))) Via.refl e0 P.2.2.2.2.2.2.2.2.2.2.2.2.2.2.2.2.2.2.2.2.2.2.2.2.2.2.2.2.2.2.2.2.2.2.2.2.2.2.2.2.2.2.2.2.2.2.1 (g := (mkF m 23 #[.val (.ref (w 2)), .val (.int (0 : Int32)), .val (.int (1 : Int32))] [(.ref (w 2))])) rfl rfl (hb hby d1_23)
  refine Goes.by st35 ?_
  show Goes p e below (T35.setTop (mkF m 26 #[.val (.ref (w 2)), .val (.int (0 : Int32)), .val (.int (1 : Int32))] [(.int (1 : Int32))])) _
  obtain ⟨fs, hr, hrun, hended, hW, hsame⟩ := X35.leave (v := some (.int (1 : Int32))) (fun h => by rw [Bd.returns] at h; cases h)
  exact ⟨_, _, retN X35 hx (t := .boolean) Bd.returns (by simp) (hb hby d1_26) hr, hrun, hended, _, _, rfl, ⟨rfl, N0, e35⟩, ⟨_, rfl⟩, hW, hsame.mono (by decide) (by decide)⟩
set_option maxRecDepth 65536 in
set_option maxHeartbeats 40000000 in
theorem r1_12 (l : Launch) (Z : State) (a0 : Array Value) (hw : ∀ d ∈ tables_1, d.before a0 Z = true) (ws : List Jvm.Cond) (h0 : Heap) (n0 : Nat) (Z0 : n0 ≤ h0.size) (w : Nat → Addr) (P : Pins Z h0 w) :
    MetFree l (⟨"com/example/entail/entail/model/Scope", "reaches", "(IZ)Z"⟩ : MethodName) (head1 (Jvm.Cond.code (⟨"com/example/entail/entail/model/Scope", "reaches", "(IZ)Z"⟩ : MethodName) prog_11_method_6_code 3 (some .boolean) :: ws) ({ frames := 0, cells := 0, slots := 0, locals := 0 } : Room)) (fun a U => a = #[(.ref (w 6)), (.int (0 : Int32)), (.int (1 : Int32))] ∧ Z.Warmed39 U.vm ∧ U.heap = h0) (fun _ _ _ _ _ => True) (fun _ U o U' => ∃ v L, o = .returned v ∧ QP (some (.int (0 : Int32))) h0 n0 v U'.heap L ∧ FrameEnd U o U' L ({ frames := 0, cells := 0, slots := 0, locals := 0 } : Room).cells ({ frames := 0, cells := 0, slots := 0, locals := 0 } : Room).slots) := by
  refine MetFree.of_bodySF (plainFor_of_name pn0) hisR ?_
  intro p e s m args below meth c s₁ Bd hml0 hP hK
  obtain ⟨rfl, hZ, hh⟩ := hP
  have hx := Bd.exec
  have hby := Bd.bytes
  have hml : c.maxLocals = 3 := hml0
  have hown : s.vm.findClass "com/example/entail/entail/model/Scope" = some m.cls := findClass_of_methodNamed Bd.named
  have hnm := (name_of_methodNamed Bd.named Bd.method).1
  have X0 : Stand p l e ({ frames := 0, cells := 0, slots := 0, locals := 0 } : Room) s m #[(.ref (w 6)), (.int (0 : Int32)), (.int (1 : Int32))] below meth c s₁ [] 0 0 := Stand.of_body Bd
  have e0 : s₁.heap = h0 := by rw [← hh, Bd.state]; rfl
  have N0 := Fr.nil n0
  refine Goes.out (Goes.by (fun tz kz => castTop (ef1_RII m ((w 6)) ((0 : Int32)) ((1 : Int32))) kz) ?_)
  show Goes p e below (s₁.setTop (mkF m 0 #[.val (.ref (w 6)), .val (.int (0 : Int32)), .val (.int (1 : Int32))] [])) _
  refine Goes.by (fun _ kz => XS.iloadN X0.here hx rfl (hb hby d1_0) rfl (XS.ifYes X0.here hx rfl (pc0 := 1) (pc' := 18) rfl (hb hby d1_1) rfl ((if0 _ _).trans (flt (by decide : ¬ ((0 : Int32) < (0 : Int32)))).2.1) (by decide) (by decide) (XS.iloadN X0.here hx rfl (hb hby d1_18) rfl kz))) ?_
  show Goes p e below (s₁.setTop (mkF m 19 #[.val (.ref (w 6)), .val (.int (0 : Int32)), .val (.int (1 : Int32))] [(.int (0 : Int32))])) _
  refine Goes.by (fun _ kz => XS.ifNo X0.here hx rfl (hb hby d1_19) rfl ((if0 _ _).trans (teq (by decide : (0 : Int32) = (0 : Int32))).2) (XS.aloadN X0.here hx rfl (hb hby d1_22) rfl rfl kz)) ?_
  obtain ⟨T38, X38, e38, st38⟩ := getF X0 hx hZ hown (host := "") (Or.inl (hw _ (List.mem_of_getElem? (i := 19) rfl))) Via.refl e0 P.2.2.2.2.2.2.2.2.2.2.2.2.2.2.2.2.2.2.2.2.2.2.2.2.2.2.2.2.2.2.2.2.2.2.2.2.2.2.2.2.2.2.2.2.1 (g := (mkF m 23 #[.val (.ref (w 6)), .val (.int (0 : Int32)), .val (.int (1 : Int32))] [(.ref (w 6))])) rfl rfl (hb hby d1_23)
  refine Goes.by st38 ?_
  show Goes p e below (T38.setTop (mkF m 26 #[.val (.ref (w 6)), .val (.int (0 : Int32)), .val (.int (1 : Int32))] [(.int (0 : Int32))])) _
  obtain ⟨fs, hr, hrun, hended, hW, hsame⟩ := X38.leave (v := some (.int (0 : Int32))) (fun h => by rw [Bd.returns] at h; cases h)
  exact ⟨_, _, retN X38 hx (t := .boolean) Bd.returns (by simp) (hb hby d1_26) hr, hrun, hended, _, _, rfl, ⟨rfl, N0, e38⟩, ⟨_, rfl⟩, hW, hsame.mono (by decide) (by decide)⟩
set_option maxRecDepth 65536 in
set_option maxHeartbeats 40000000 in
theorem r1_13 (l : Launch) (Z : State) (a0 : Array Value) (hw : ∀ d ∈ tables_1, d.before a0 Z = true) (ws : List Jvm.Cond) (h0 : Heap) (n0 : Nat) (Z0 : n0 ≤ h0.size) (w : Nat → Addr) (P : Pins Z h0 w) :
    MetFree l (⟨"com/example/entail/entail/model/Scope", "reaches", "(IZ)Z"⟩ : MethodName) (head1 (Jvm.Cond.code (⟨"com/example/entail/entail/model/Scope", "reaches", "(IZ)Z"⟩ : MethodName) prog_11_method_6_code 3 (some .boolean) :: ws) ({ frames := 0, cells := 0, slots := 0, locals := 0 } : Room)) (fun a U => a = #[(.ref (w 7)), (.int (0 : Int32)), (.int (1 : Int32))] ∧ Z.Warmed39 U.vm ∧ U.heap = h0) (fun _ _ _ _ _ => True) (fun _ U o U' => ∃ v L, o = .returned v ∧ QP (some (.int (0 : Int32))) h0 n0 v U'.heap L ∧ FrameEnd U o U' L ({ frames := 0, cells := 0, slots := 0, locals := 0 } : Room).cells ({ frames := 0, cells := 0, slots := 0, locals := 0 } : Room).slots) := by
  refine MetFree.of_bodySF (plainFor_of_name pn0) hisR ?_
  intro p e s m args below meth c s₁ Bd hml0 hP hK
  obtain ⟨rfl, hZ, hh⟩ := hP
  have hx := Bd.exec
  have hby := Bd.bytes
  have hml : c.maxLocals = 3 := hml0
  have hown : s.vm.findClass "com/example/entail/entail/model/Scope" = some m.cls := findClass_of_methodNamed Bd.named
  have hnm := (name_of_methodNamed Bd.named Bd.method).1
  have X0 : Stand p l e ({ frames := 0, cells := 0, slots := 0, locals := 0 } : Room) s m #[(.ref (w 7)), (.int (0 : Int32)), (.int (1 : Int32))] below meth c s₁ [] 0 0 := Stand.of_body Bd
  have e0 : s₁.heap = h0 := by rw [← hh, Bd.state]; rfl
  have N0 := Fr.nil n0
  refine Goes.out (Goes.by (fun tz kz => castTop (ef1_RII m ((w 7)) ((0 : Int32)) ((1 : Int32))) kz) ?_)
  show Goes p e below (s₁.setTop (mkF m 0 #[.val (.ref (w 7)), .val (.int (0 : Int32)), .val (.int (1 : Int32))] [])) _
  refine Goes.by (fun _ kz => XS.iloadN X0.here hx rfl (hb hby d1_0) rfl (XS.ifYes X0.here hx rfl (pc0 := 1) (pc' := 18) rfl (hb hby d1_1) rfl ((if0 _ _).trans (flt (by decide : ¬ ((0 : Int32) < (0 : Int32)))).2.1) (by decide) (by decide) (XS.iloadN X0.here hx rfl (hb hby d1_18) rfl kz))) ?_
  show Goes p e below (s₁.setTop (mkF m 19 #[.val (.ref (w 7)), .val (.int (0 : Int32)), .val (.int (1 : Int32))] [(.int (0 : Int32))])) _
  refine Goes.by (fun _ kz => XS.ifNo X0.here hx rfl (hb hby d1_19) rfl ((if0 _ _).trans (teq (by decide : (0 : Int32) = (0 : Int32))).2) (XS.aloadN X0.here hx rfl (hb hby d1_22) rfl rfl kz)) ?_
  obtain ⟨T41, X41, e41, st41⟩ := getF X0 hx hZ hown (host := "") (Or.inl (hw _ (List.mem_of_getElem? (i := 19) rfl))) Via.refl e0 P.2.2.2.2.2.2.2.2.2.2.2.2.2.2.2.2.2.2.2.2.2.2.2.2.2.2.2.2.2.2.2.2.2.2.2.2.1 (g := (mkF m 23 #[.val (.ref (w 7)), .val (.int (0 : Int32)), .val (.int (1 : Int32))] [(.ref (w 7))])) rfl rfl (hb hby d1_23)
  refine Goes.by st41 ?_
  show Goes p e below (T41.setTop (mkF m 26 #[.val (.ref (w 7)), .val (.int (0 : Int32)), .val (.int (1 : Int32))] [(.int (0 : Int32))])) _
  obtain ⟨fs, hr, hrun, hended, hW, hsame⟩ := X41.leave (v := some (.int (0 : Int32))) (fun h => by rw [Bd.returns] at h; cases h)
  exact ⟨_, _, retN X41 hx (t := .boolean) Bd.returns (by simp) (hb hby d1_26) hr, hrun, hended, _, _, rfl, ⟨rfl, N0, e41⟩, ⟨_, rfl⟩, hW, hsame.mono (by decide) (by decide)⟩
set_option maxRecDepth 65536 in
set_option maxHeartbeats 40000000 in
theorem r1_14 (l : Launch) (Z : State) (a0 : Array Value) (hw : ∀ d ∈ tables_1, d.before a0 Z = true) (ws : List Jvm.Cond) (h0 : Heap) (n0 : Nat) (Z0 : n0 ≤ h0.size) (w : Nat → Addr) (P : Pins Z h0 w) :
    MetFree l (⟨"com/example/entail/entail/model/Scope", "reaches", "(IZ)Z"⟩ : MethodName) (head1 (Jvm.Cond.code (⟨"com/example/entail/entail/model/Scope", "reaches", "(IZ)Z"⟩ : MethodName) prog_11_method_6_code 3 (some .boolean) :: ws) ({ frames := 0, cells := 0, slots := 0, locals := 0 } : Room)) (fun a U => a = #[(.ref (w 8)), (.int (0 : Int32)), (.int (1 : Int32))] ∧ Z.Warmed39 U.vm ∧ U.heap = h0) (fun _ _ _ _ _ => True) (fun _ U o U' => ∃ v L, o = .returned v ∧ QP (some (.int (0 : Int32))) h0 n0 v U'.heap L ∧ FrameEnd U o U' L ({ frames := 0, cells := 0, slots := 0, locals := 0 } : Room).cells ({ frames := 0, cells := 0, slots := 0, locals := 0 } : Room).slots) := by
  refine MetFree.of_bodySF (plainFor_of_name pn0) hisR ?_
  intro p e s m args below meth c s₁ Bd hml0 hP hK
  obtain ⟨rfl, hZ, hh⟩ := hP
  have hx := Bd.exec
  have hby := Bd.bytes
  have hml : c.maxLocals = 3 := hml0
  have hown : s.vm.findClass "com/example/entail/entail/model/Scope" = some m.cls := findClass_of_methodNamed Bd.named
  have hnm := (name_of_methodNamed Bd.named Bd.method).1
  have X0 : Stand p l e ({ frames := 0, cells := 0, slots := 0, locals := 0 } : Room) s m #[(.ref (w 8)), (.int (0 : Int32)), (.int (1 : Int32))] below meth c s₁ [] 0 0 := Stand.of_body Bd
  have e0 : s₁.heap = h0 := by rw [← hh, Bd.state]; rfl
  have N0 := Fr.nil n0
  refine Goes.out (Goes.by (fun tz kz => castTop (ef1_RII m ((w 8)) ((0 : Int32)) ((1 : Int32))) kz) ?_)
  show Goes p e below (s₁.setTop (mkF m 0 #[.val (.ref (w 8)), .val (.int (0 : Int32)), .val (.int (1 : Int32))] [])) _
  refine Goes.by (fun _ kz => XS.iloadN X0.here hx rfl (hb hby d1_0) rfl (XS.ifYes X0.here hx rfl (pc0 := 1) (pc' := 18) rfl (hb hby d1_1) rfl ((if0 _ _).trans (flt (by decide : ¬ ((0 : Int32) < (0 : Int32)))).2.1) (by decide) (by decide) (XS.iloadN X0.here hx rfl (hb hby d1_18) rfl kz))) ?_
  show Goes p e below (s₁.setTop (mkF m 19 #[.val (.ref (w 8)), .val (.int (0 : Int32)), .val (.int (1 : Int32))] [(.int (0 : Int32))])) _
  refine Goes.by (fun _ kz => XS.ifNo X0.here hx rfl (hb hby d1_19) rfl ((if0 _ _).trans (teq (by decide : (0 : Int32) = (0 : Int32))).2) (XS.aloadN X0.here hx rfl (hb hby d1_22) rfl rfl kz)) ?_
  obtain ⟨T44, X44, e44, st44⟩ := getF X0 hx hZ hown (host := "") (Or.inl (hw _ (List.mem_of_getElem? (i := 19) rfl))) Via.refl e0 P.2.2.2.2.2.2.2.2.2.2.2.2.2.2.2.2.2.2.2.2.2.2.2.2.2.2.2.2.2.2.2.2.2.2.2.2.2.2.2.2.2.2.2.2.2.2.2.2.2.2.2.2.2.2.2.2.1 (g := (mkF m 23 #[.val (.ref (w 8)), .val (.int (0 : Int32)), .val (.int (1 : Int32))] [(.ref (w 8))])) rfl rfl (hb hby d1_23)
  refine Goes.by st44 ?_
  show Goes p e below (T44.setTop (mkF m 26 #[.val (.ref (w 8)), .val (.int (0 : Int32)), .val (.int (1 : Int32))] [(.int (0 : Int32))])) _
  obtain ⟨fs, hr, hrun, hended, hW, hsame⟩ := X44.leave (v := some (.int (0 : Int32))) (fun h => by rw [Bd.returns] at h; cases h)
  exact ⟨_, _, retN X44 hx (t := .boolean) Bd.returns (by simp) (hb hby d1_26) hr, hrun, hended, _, _, rfl, ⟨rfl, N0, e44⟩, ⟨_, rfl⟩, hW, hsame.mono (by decide) (by decide)⟩
set_option maxRecDepth 65536 in
set_option maxHeartbeats 40000000 in
theorem r1_15 (l : Launch) (Z : State) (a0 : Array Value) (hw : ∀ d ∈ tables_1, d.before a0 Z = true) (ws : List Jvm.Cond) (h0 : Heap) (n0 : Nat) (Z0 : n0 ≤ h0.size) (w : Nat → Addr) (P : Pins Z h0 w) :
    MetFree l (⟨"com/example/entail/entail/model/Scope", "reaches", "(IZ)Z"⟩ : MethodName) (head1 (Jvm.Cond.code (⟨"com/example/entail/entail/model/Scope", "reaches", "(IZ)Z"⟩ : MethodName) prog_11_method_6_code 3 (some .boolean) :: ws) ({ frames := 0, cells := 0, slots := 0, locals := 0 } : Room)) (fun a U => a = #[(.ref (w 4)), (.int (0 : Int32)), (.int (1 : Int32))] ∧ Z.Warmed39 U.vm ∧ U.heap = h0) (fun _ _ _ _ _ => True) (fun _ U o U' => ∃ v L, o = .returned v ∧ QP (some (.int (0 : Int32))) h0 n0 v U'.heap L ∧ FrameEnd U o U' L ({ frames := 0, cells := 0, slots := 0, locals := 0 } : Room).cells ({ frames := 0, cells := 0, slots := 0, locals := 0 } : Room).slots) := by
  refine MetFree.of_bodySF (plainFor_of_name pn0) hisR ?_
  intro p e s m args below meth c s₁ Bd hml0 hP hK
  obtain ⟨rfl, hZ, hh⟩ := hP
  have hx := Bd.exec
  have hby := Bd.bytes
  have hml : c.maxLocals = 3 := hml0
  have hown : s.vm.findClass "com/example/entail/entail/model/Scope" = some m.cls := findClass_of_methodNamed Bd.named
  have hnm := (name_of_methodNamed Bd.named Bd.method).1
  have X0 : Stand p l e ({ frames := 0, cells := 0, slots := 0, locals := 0 } : Room) s m #[(.ref (w 4)), (.int (0 : Int32)), (.int (1 : Int32))] below meth c s₁ [] 0 0 := Stand.of_body Bd
  have e0 : s₁.heap = h0 := by rw [← hh, Bd.state]; rfl
  have N0 := Fr.nil n0
  refine Goes.out (Goes.by (fun tz kz => castTop (ef1_RII m ((w 4)) ((0 : Int32)) ((1 : Int32))) kz) ?_)
  show Goes p e below (s₁.setTop (mkF m 0 #[.val (.ref (w 4)), .val (.int (0 : Int32)), .val (.int (1 : Int32))] [])) _
  refine Goes.by (fun _ kz => XS.iloadN X0.here hx rfl (hb hby d1_0) rfl (XS.ifYes X0.here hx rfl (pc0 := 1) (pc' := 18) rfl (hb hby d1_1) rfl ((if0 _ _).trans (flt (by decide : ¬ ((0 : Int32) < (0 : Int32)))).2.1) (by decide) (by decide) (XS.iloadN X0.here hx rfl (hb hby d1_18) rfl kz))) ?_
  show Goes p e below (s₁.setTop (mkF m 19 #[.val (.ref (w 4)), .val (.int (0 : Int32)), .val (.int (1 : Int32))] [(.int (0 : Int32))])) _
  refine Goes.by (fun _ kz => XS.ifNo X0.here hx rfl (hb hby d1_19) rfl ((if0 _ _).trans (teq (by decide : (0 : Int32) = (0 : Int32))).2) (XS.aloadN X0.here hx rfl (hb hby d1_22) rfl rfl kz)) ?_
  obtain ⟨T47, X47, e47, st47⟩ := getF X0 hx hZ hown (host := "") (Or.inl (hw _ (List.mem_of_getElem? (i := 19) rfl))) Via.refl e0 P.2.2.2.2.2.2.2.2.2.2.2.2.2.2.2.2.2.2.2.2.2.2.2.2.2.2.2.2.2.2.2.2.2.2.2.2.2.2.2.2.2.2.2.2.2.2.2.2.2.1 (g := (mkF m 23 #[.val (.ref (w 4)), .val (.int (0 : Int32)), .val (.int (1 : Int32))] [(.ref (w 4))])) rfl rfl (hb hby d1_23)
  refine Goes.by st47 ?_
  show Goes p e below (T47.setTop (mkF m 26 #[.val (.ref (w 4)), .val (.int (0 : Int32)), .val (.int (1 : Int32))] [(.int (0 : Int32))])) _
  obtain ⟨fs, hr, hrun, hended, hW, hsame⟩ := X47.leave (v := some (.int (0 : Int32))) (fun h => by rw [Bd.returns] at h; cases h)
  exact ⟨_, _, retN X47 hx (t := .boolean) Bd.returns (by simp) (hb hby d1_26) hr, hrun, hended, _, _, rfl, ⟨rfl, N0, e47⟩, ⟨_, rfl⟩, hW, hsame.mono (by decide) (by decide)⟩
set_option maxRecDepth 65536 in
set_option maxHeartbeats 40000000 in
theorem r1_16 (l : Launch) (Z : State) (a0 : Array Value) (hw : ∀ d ∈ tables_1, d.before a0 Z = true) (ws : List Jvm.Cond) (h0 : Heap) (n0 : Nat) (Z0 : n0 ≤ h0.size) (w : Nat → Addr) (P : Pins Z h0 w) :
    MetFree l (⟨"com/example/entail/entail/model/Scope", "reaches", "(IZ)Z"⟩ : MethodName) (head1 (Jvm.Cond.code (⟨"com/example/entail/entail/model/Scope", "reaches", "(IZ)Z"⟩ : MethodName) prog_11_method_6_code 3 (some .boolean) :: ws) ({ frames := 0, cells := 0, slots := 0, locals := 0 } : Room)) (fun a U => a = #[(.ref (w 5)), (.int (0 : Int32)), (.int (1 : Int32))] ∧ Z.Warmed39 U.vm ∧ U.heap = h0) (fun _ _ _ _ _ => True) (fun _ U o U' => ∃ v L, o = .returned v ∧ QP (some (.int (0 : Int32))) h0 n0 v U'.heap L ∧ FrameEnd U o U' L ({ frames := 0, cells := 0, slots := 0, locals := 0 } : Room).cells ({ frames := 0, cells := 0, slots := 0, locals := 0 } : Room).slots) := by
  refine MetFree.of_bodySF (plainFor_of_name pn0) hisR ?_
  intro p e s m args below meth c s₁ Bd hml0 hP hK
  obtain ⟨rfl, hZ, hh⟩ := hP
  have hx := Bd.exec
  have hby := Bd.bytes
  have hml : c.maxLocals = 3 := hml0
  have hown : s.vm.findClass "com/example/entail/entail/model/Scope" = some m.cls := findClass_of_methodNamed Bd.named
  have hnm := (name_of_methodNamed Bd.named Bd.method).1
  have X0 : Stand p l e ({ frames := 0, cells := 0, slots := 0, locals := 0 } : Room) s m #[(.ref (w 5)), (.int (0 : Int32)), (.int (1 : Int32))] below meth c s₁ [] 0 0 := Stand.of_body Bd
  have e0 : s₁.heap = h0 := by rw [← hh, Bd.state]; rfl
  have N0 := Fr.nil n0
  refine Goes.out (Goes.by (fun tz kz => castTop (ef1_RII m ((w 5)) ((0 : Int32)) ((1 : Int32))) kz) ?_)
  show Goes p e below (s₁.setTop (mkF m 0 #[.val (.ref (w 5)), .val (.int (0 : Int32)), .val (.int (1 : Int32))] [])) _
  refine Goes.by (fun _ kz => XS.iloadN X0.here hx rfl (hb hby d1_0) rfl (XS.ifYes X0.here hx rfl (pc0 := 1) (pc' := 18) rfl (hb hby d1_1) rfl ((if0 _ _).trans (flt (by decide : ¬ ((0 : Int32) < (0 : Int32)))).2.1) (by decide) (by decide) (XS.iloadN X0.here hx rfl (hb hby d1_18) rfl kz))) ?_
  show Goes p e below (s₁.setTop (mkF m 19 #[.val (.ref (w 5)), .val (.int (0 : Int32)), .val (.int (1 : Int32))] [(.int (0 : Int32))])) _
  refine Goes.by (fun _ kz => XS.ifNo X0.here hx rfl (hb hby d1_19) rfl ((if0 _ _).trans (teq (by decide : (0 : Int32) = (0 : Int32))).2) (XS.aloadN X0.here hx rfl (hb hby d1_22) rfl rfl kz)) ?_
  obtain ⟨T50, X50, e50, st50⟩ := getF X0 hx hZ hown (host := "") (Or.inl (hw _ (List.mem_of_getElem? (i := 19) rfl))) Via.refl e0 P.2.2.2.2.2.2.2.2.2.2.2.2.2.2.2.2.2.2.2.2.2.2.2.2.2.2.2.2.2.2.2.2.2.2.2.2.2.2.2.2.2.2.2.2.2.2.2.2.2.2.2.2.2.2.2.2.2.1 (g := (mkF m 23 #[.val (.ref (w 5)), .val (.int (0 : Int32)), .val (.int (1 : Int32))] [(.ref (w 5))])) rfl rfl (hb hby d1_23)
  refine Goes.by st50 ?_
  show Goes p e below (T50.setTop (mkF m 26 #[.val (.ref (w 5)), .val (.int (0 : Int32)), .val (.int (1 : Int32))] [(.int (0 : Int32))])) _
  obtain ⟨fs, hr, hrun, hended, hW, hsame⟩ := X50.leave (v := some (.int (0 : Int32))) (fun h => by rw [Bd.returns] at h; cases h)
  exact ⟨_, _, retN X50 hx (t := .boolean) Bd.returns (by simp) (hb hby d1_26) hr, hrun, hended, _, _, rfl, ⟨rfl, N0, e50⟩, ⟨_, rfl⟩, hW, hsame.mono (by decide) (by decide)⟩
set_option maxRecDepth 65536 in
set_option maxHeartbeats 40000000 in
theorem r1_17 (l : Launch) (Z : State) (a0 : Array Value) (hw : ∀ d ∈ tables_1, d.before a0 Z = true) (ws : List Jvm.Cond) (h0 : Heap) (n0 : Nat) (Z0 : n0 ≤ h0.size) (w : Nat → Addr) (P : Pins Z h0 w) :
    MetFree l (⟨"com/example/entail/entail/model/Scope", "reaches", "(IZ)Z"⟩ : MethodName) (head1 (Jvm.Cond.code (⟨"com/example/entail/entail/model/Scope", "reaches", "(IZ)Z"⟩ : MethodName) prog_11_method_6_code 3 (some .boolean) :: ws) ({ frames := 0, cells := 0, slots := 0, locals := 0 } : Room)) (fun a U => a = #[(.ref (w 3)), (.int (0 : Int32)), (.int (1 : Int32))] ∧ Z.Warmed39 U.vm ∧ U.heap = h0) (fun _ _ _ _ _ => True) (fun _ U o U' => ∃ v L, o = .returned v ∧ QP (some (.int (1 : Int32))) h0 n0 v U'.heap L ∧ FrameEnd U o U' L ({ frames := 0, cells := 0, slots := 0, locals := 0 } : Room).cells ({ frames := 0, cells := 0, slots := 0, locals := 0 } : Room).slots) := by
  refine MetFree.of_bodySF (plainFor_of_name pn0) hisR ?_
  intro p e s m args below meth c s₁ Bd hml0 hP hK
  obtain ⟨rfl, hZ, hh⟩ := hP
  have hx := Bd.exec
  have hby := Bd.bytes
  have hml : c.maxLocals = 3 := hml0
  have hown : s.vm.findClass "com/example/entail/entail/model/Scope" = some m.cls := findClass_of_methodNamed Bd.named
  have hnm := (name_of_methodNamed Bd.named Bd.method).1
  have X0 : Stand p l e ({ frames := 0, cells := 0, slots := 0, locals := 0 } : Room) s m #[(.ref (w 3)), (.int (0 : Int32)), (.int (1 : Int32))] below meth c s₁ [] 0 0 := Stand.of_body Bd
  have e0 : s₁.heap = h0 := by rw [← hh, Bd.state]; rfl
  have N0 := Fr.nil n0
  refine Goes.out (Goes.by (fun tz kz => castTop (ef1_RII m ((w 3)) ((0 : Int32)) ((1 : Int32))) kz) ?_)
  show Goes p e below (s₁.setTop (mkF m 0 #[.val (.ref (w 3)), .val (.int (0 : Int32)), .val (.int (1 : Int32))] [])) _
  refine Goes.by (fun _ kz => XS.iloadN X0.here hx rfl (hb hby d1_0) rfl (XS.ifYes X0.here hx rfl (pc0 := 1) (pc' := 18) rfl (hb hby d1_1) rfl ((if0 _ _).trans (flt (by decide : ¬ ((0 : Int32) < (0 : Int32)))).2.1) (by decide) (by decide) (XS.iloadN X0.here hx rfl (hb hby d1_18) rfl kz))) ?_
  show Goes p e below (s₁.setTop (mkF m 19 #[.val (.ref (w 3)), .val (.int (0 : Int32)), .val (.int (1 : Int32))] [(.int (0 : Int32))])) _
  refine Goes.by (fun _ kz => XS.ifNo X0.here hx rfl (hb hby d1_19) rfl ((if0 _ _).trans (teq (by decide : (0 : Int32) = (0 : Int32))).2) (XS.aloadN X0.here hx rfl (hb hby d1_22) rfl rfl kz)) ?_
  obtain ⟨T53, X53, e53, st53⟩ := getF X0 hx hZ hown (host := "") (Or.inl (hw _ (List.mem_of_getElem? (i := 19) rfl))) Via.refl e0 P.2.2.2.2.2.2.2.2.2.2.2.2.2.2.2.2.2.2.2.2.2.2.1 (g := (mkF m 23 #[.val (.ref (w 3)), .val (.int (0 : Int32)), .val (.int (1 : Int32))] [(.ref (w 3))])) rfl rfl (hb hby d1_23)
  refine Goes.by st53 ?_
  show Goes p e below (T53.setTop (mkF m 26 #[.val (.ref (w 3)), .val (.int (0 : Int32)), .val (.int (1 : Int32))] [(.int (1 : Int32))])) _
  obtain ⟨fs, hr, hrun, hended, hW, hsame⟩ := X53.leave (v := some (.int (1 : Int32))) (fun h => by rw [Bd.returns] at h; cases h)
  exact ⟨_, _, retN X53 hx (t := .boolean) Bd.returns (by simp) (hb hby d1_26) hr, hrun, hended, _, _, rfl, ⟨rfl, N0, e53⟩, ⟨_, rfl⟩, hW, hsame.mono (by decide) (by decide)⟩
set_option maxRecDepth 65536 in
set_option maxHeartbeats 40000000 in
theorem r1_18 (l : Launch) (Z : State) (a0 : Array Value) (hw : ∀ d ∈ tables_1, d.before a0 Z = true) (ws : List Jvm.Cond) (h0 : Heap) (n0 : Nat) (Z0 : n0 ≤ h0.size) (w : Nat → Addr) (P : Pins Z h0 w) :
    MetFree l (⟨"com/example/entail/entail/model/Scope", "reaches", "(IZ)Z"⟩ : MethodName) (head1 (Jvm.Cond.code (⟨"com/example/entail/entail/model/Scope", "reaches", "(IZ)Z"⟩ : MethodName) prog_11_method_6_code 3 (some .boolean) :: ws) ({ frames := 0, cells := 0, slots := 0, locals := 0 } : Room)) (fun a U => a = #[(.ref (w 0)), (.int (1 : Int32)), (.int (0 : Int32))] ∧ Z.Warmed39 U.vm ∧ U.heap = h0) (fun _ _ _ _ _ => True) (fun _ U o U' => ∃ v L, o = .returned v ∧ QP (some (.int (1 : Int32))) h0 n0 v U'.heap L ∧ FrameEnd U o U' L ({ frames := 0, cells := 0, slots := 0, locals := 0 } : Room).cells ({ frames := 0, cells := 0, slots := 0, locals := 0 } : Room).slots) := by
  refine MetFree.of_bodySF (plainFor_of_name pn0) hisR ?_
  intro p e s m args below meth c s₁ Bd hml0 hP hK
  obtain ⟨rfl, hZ, hh⟩ := hP
  have hx := Bd.exec
  have hby := Bd.bytes
  have hml : c.maxLocals = 3 := hml0
  have hown : s.vm.findClass "com/example/entail/entail/model/Scope" = some m.cls := findClass_of_methodNamed Bd.named
  have hnm := (name_of_methodNamed Bd.named Bd.method).1
  have X0 : Stand p l e ({ frames := 0, cells := 0, slots := 0, locals := 0 } : Room) s m #[(.ref (w 0)), (.int (1 : Int32)), (.int (0 : Int32))] below meth c s₁ [] 0 0 := Stand.of_body Bd
  have e0 : s₁.heap = h0 := by rw [← hh, Bd.state]; rfl
  have N0 := Fr.nil n0
  refine Goes.out (Goes.by (fun tz kz => castTop (ef1_RII m ((w 0)) ((1 : Int32)) ((0 : Int32))) kz) ?_)
  show Goes p e below (s₁.setTop (mkF m 0 #[.val (.ref (w 0)), .val (.int (1 : Int32)), .val (.int (0 : Int32))] [])) _
  refine Goes.by (fun _ kz => XS.iloadN X0.here hx rfl (hb hby d1_0) rfl (XS.ifYes X0.here hx rfl (pc0 := 1) (pc' := 18) rfl (hb hby d1_1) rfl ((if0 _ _).trans (flt (by decide : ¬ ((1 : Int32) < (0 : Int32)))).2.1) (by decide) (by decide) (XS.iloadN X0.here hx rfl (hb hby d1_18) rfl kz))) ?_
  show Goes p e below (s₁.setTop (mkF m 19 #[.val (.ref (w 0)), .val (.int (1 : Int32)), .val (.int (0 : Int32))] [(.int (1 : Int32))])) _
  refine Goes.by (fun _ kz => XS.ifYes X0.here hx rfl (pc0 := 19) (pc' := 27) rfl (hb hby d1_19) rfl ((if0 _ _).trans (feq (by decide : ¬ ((1 : Int32) = (0 : Int32)))).2) (by decide) (by decide) (XS.iloadN X0.here hx rfl (hb hby d1_27) rfl (XS.iconst X0.here hx rfl (hb hby d1_28) kz))) ?_
  show Goes p e below (s₁.setTop (mkF m 29 #[.val (.ref (w 0)), .val (.int (1 : Int32)), .val (.int (0 : Int32))] [(.int (1 : Int32)), (.int (1 : Int32))])) _
  refine Goes.by (fun _ kz => XS.icmpNo X0.here hx rfl (hb hby d1_29) rfl (teq (by decide : (1 : Int32) = (1 : Int32))).2 (XS.iloadN X0.here hx rfl (hb hby d1_32) rfl (XS.ifYes X0.here hx rfl (pc0 := 33) (pc' := 43) rfl (hb hby d1_33) rfl ((if0 _ _).trans (teq (by decide : (0 : Int32) = (0 : Int32))).1) (by decide) (by decide) kz))) ?_
  show Goes p e below (s₁.setTop (mkF m 43 #[.val (.ref (w 0)), .val (.int (1 : Int32)), .val (.int (0 : Int32))] [])) _
  refine Goes.by (fun _ kz => XS.aloadN X0.here hx rfl (hb hby d1_43) rfl rfl kz) ?_
  obtain ⟨T56, X56, e56, st56⟩ := getF X0 hx hZ hown (host := "") (Or.inl (hw _ (List.mem_of_getElem? (i := 27) rfl))) Via.refl e0 P.2.2.2.2.2.2.2.2.2.2.2.2.2.2.2.2.2.2.2.2.2.2.2.2.2.2.2.2.2.2.2.2.2.2.2.2.2.2.2.2.1 (g := (mkF m 44 #[.val (.ref (w 0)), .val (.int (1 : Int32)), .val (.int (0 : Int32))] [(.ref (w 0))])) rfl rfl (hb hby d1_44)
  refine Goes.by st56 ?_
  show Goes p e below (T56.setTop (mkF m 47 #[.val (.ref (w 0)), .val (.int (1 : Int32)), .val (.int (0 : Int32))] [(.int (1 : Int32))])) _
  obtain ⟨fs, hr, hrun, hended, hW, hsame⟩ := X56.leave (v := some (.int (1 : Int32))) (fun h => by rw [Bd.returns] at h; cases h)
  exact ⟨_, _, retN X56 hx (t := .boolean) Bd.returns (by simp) (hb hby d1_47) hr, hrun, hended, _, _, rfl, ⟨rfl, N0, e56⟩, ⟨_, rfl⟩, hW, hsame.mono (by decide) (by decide)⟩
set_option maxRecDepth 65536 in
set_option maxHeartbeats 40000000 in
theorem r1_19 (l : Launch) (Z : State) (a0 : Array Value) (hw : ∀ d ∈ tables_1, d.before a0 Z = true) (ws : List Jvm.Cond) (h0 : Heap) (n0 : Nat) (Z0 : n0 ≤ h0.size) (w : Nat → Addr) (P : Pins Z h0 w) :
    MetFree l (⟨"com/example/entail/entail/model/Scope", "reaches", "(IZ)Z"⟩ : MethodName) (head1 (Jvm.Cond.code (⟨"com/example/entail/entail/model/Scope", "reaches", "(IZ)Z"⟩ : MethodName) prog_11_method_6_code 3 (some .boolean) :: ws) ({ frames := 0, cells := 0, slots := 0, locals := 0 } : Room)) (fun a U => a = #[(.ref (w 1)), (.int (1 : Int32)), (.int (0 : Int32))] ∧ Z.Warmed39 U.vm ∧ U.heap = h0) (fun _ _ _ _ _ => True) (fun _ U o U' => ∃ v L, o = .returned v ∧ QP (some (.int (0 : Int32))) h0 n0 v U'.heap L ∧ FrameEnd U o U' L ({ frames := 0, cells := 0, slots := 0, locals := 0 } : Room).cells ({ frames := 0, cells := 0, slots := 0, locals := 0 } : Room).slots) := by
  refine MetFree.of_bodySF (plainFor_of_name pn0) hisR ?_
  intro p e s m args below meth c s₁ Bd hml0 hP hK
  obtain ⟨rfl, hZ, hh⟩ := hP
  have hx := Bd.exec
  have hby := Bd.bytes
  have hml : c.maxLocals = 3 := hml0
  have hown : s.vm.findClass "com/example/entail/entail/model/Scope" = some m.cls := findClass_of_methodNamed Bd.named
  have hnm := (name_of_methodNamed Bd.named Bd.method).1
  have X0 : Stand p l e ({ frames := 0, cells := 0, slots := 0, locals := 0 } : Room) s m #[(.ref (w 1)), (.int (1 : Int32)), (.int (0 : Int32))] below meth c s₁ [] 0 0 := Stand.of_body Bd
  have e0 : s₁.heap = h0 := by rw [← hh, Bd.state]; rfl
  have N0 := Fr.nil n0
  refine Goes.out (Goes.by (fun tz kz => castTop (ef1_RII m ((w 1)) ((1 : Int32)) ((0 : Int32))) kz) ?_)
  show Goes p e below (s₁.setTop (mkF m 0 #[.val (.ref (w 1)), .val (.int (1 : Int32)), .val (.int (0 : Int32))] [])) _
  refine Goes.by (fun _ kz => XS.iloadN X0.here hx rfl (hb hby d1_0) rfl (XS.ifYes X0.here hx rfl (pc0 := 1) (pc' := 18) rfl (hb hby d1_1) rfl ((if0 _ _).trans (flt (by decide : ¬ ((1 : Int32) < (0 : Int32)))).2.1) (by decide) (by decide) (XS.iloadN X0.here hx rfl (hb hby d1_18) rfl kz))) ?_
  show Goes p e below (s₁.setTop (mkF m 19 #[.val (.ref (w 1)), .val (.int (1 : Int32)), .val (.int (0 : Int32))] [(.int (1 : Int32))])) _
  refine Goes.by (fun _ kz => XS.ifYes X0.here hx rfl (pc0 := 19) (pc' := 27) rfl (hb hby d1_19) rfl ((if0 _ _).trans (feq (by decide : ¬ ((1 : Int32) = (0 : Int32)))).2) (by decide) (by decide) (XS.iloadN X0.here hx rfl (hb hby d1_27) rfl (XS.iconst X0.here hx rfl (hb hby d1_28) kz))) ?_
  show Goes p e below (s₁.setTop (mkF m 29 #[.val (.ref (w 1)), .val (.int (1 : Int32)), .val (.int (0 : Int32))] [(.int (1 : Int32)), (.int (1 : Int32))])) _
  refine Goes.by (fun _ kz => XS.icmpNo X0.here hx rfl (hb hby d1_29) rfl (teq (by decide : (1 : Int32) = (1 : Int32))).2 (XS.iloadN X0.here hx rfl (hb hby d1_32) rfl (XS.ifYes X0.here hx rfl (pc0 := 33) (pc' := 43) rfl (hb hby d1_33) rfl ((if0 _ _).trans (teq (by decide : (0 : Int32) = (0 : Int32))).1) (by decide) (by decide) kz))) ?_
  show Goes p e below (s₁.setTop (mkF m 43 #[.val (.ref (w 1)), .val (.int (1 : Int32)), .val (.int (0 : Int32))] [])) _
  refine Goes.by (fun _ kz => XS.aloadN X0.here hx rfl (hb hby d1_43) rfl rfl kz) ?_
  obtain ⟨T59, X59, e59, st59⟩ := getF X0 hx hZ hown (host := "") (Or.inl (hw _ (List.mem_of_getElem? (i := 27) rfl))) Via.refl e0 P.2.2.2.2.2.2.2.2.2.2.2.2.2.2.2.2.2.2.2.2.2.2.2.2.2.2.2.2.2.2.2.2.2.2.2.2.2.2.2.2.2.2.2.2.2.2.2.2.1 (g := (mkF m 44 #[.val (.ref (w 1)), .val (.int (1 : Int32)), .val (.int (0 : Int32))] [(.ref (w 1))])) rfl rfl (hb hby d1_44)
  refine Goes.by st59 ?_
  show Goes p e below (T59.setTop (mkF m 47 #[.val (.ref (w 1)), .val (.int (1 : Int32)), .val (.int (0 : Int32))] [(.int (0 : Int32))])) _
  obtain ⟨fs, hr, hrun, hended, hW, hsame⟩ := X59.leave (v := some (.int (0 : Int32))) (fun h => by rw [Bd.returns] at h; cases h)
  exact ⟨_, _, retN X59 hx (t := .boolean) Bd.returns (by simp) (hb hby d1_47) hr, hrun, hended, _, _, rfl, ⟨rfl, N0, e59⟩, ⟨_, rfl⟩, hW, hsame.mono (by decide) (by decide)⟩
set_option maxRecDepth 65536 in
set_option maxHeartbeats 40000000 in
theorem r1_20 (l : Launch) (Z : State) (a0 : Array Value) (hw : ∀ d ∈ tables_1, d.before a0 Z = true) (ws : List Jvm.Cond) (h0 : Heap) (n0 : Nat) (Z0 : n0 ≤ h0.size) (w : Nat → Addr) (P : Pins Z h0 w) :
    MetFree l (⟨"com/example/entail/entail/model/Scope", "reaches", "(IZ)Z"⟩ : MethodName) (head1 (Jvm.Cond.code (⟨"com/example/entail/entail/model/Scope", "reaches", "(IZ)Z"⟩ : MethodName) prog_11_method_6_code 3 (some .boolean) :: ws) ({ frames := 0, cells := 0, slots := 0, locals := 0 } : Room)) (fun a U => a = #[(.ref (w 2)), (.int (1 : Int32)), (.int (0 : Int32))] ∧ Z.Warmed39 U.vm ∧ U.heap = h0) (fun _ _ _ _ _ => True) (fun _ U o U' => ∃ v L, o = .returned v ∧ QP (some (.int (1 : Int32))) h0 n0 v U'.heap L ∧ FrameEnd U o U' L ({ frames := 0, cells := 0, slots := 0, locals := 0 } : Room).cells ({ frames := 0, cells := 0, slots := 0, locals := 0 } : Room).slots) := by
  refine MetFree.of_bodySF (plainFor_of_name pn0) hisR ?_
  intro p e s m args below meth c s₁ Bd hml0 hP hK
  obtain ⟨rfl, hZ, hh⟩ := hP
  have hx := Bd.exec
  have hby := Bd.bytes
  have hml : c.maxLocals = 3 := hml0
  have hown : s.vm.findClass "com/example/entail/entail/model/Scope" = some m.cls := findClass_of_methodNamed Bd.named
  have hnm := (name_of_methodNamed Bd.named Bd.method).1
  have X0 : Stand p l e ({ frames := 0, cells := 0, slots := 0, locals := 0 } : Room) s m #[(.ref (w 2)), (.int (1 : Int32)), (.int (0 : Int32))] below meth c s₁ [] 0 0 := Stand.of_body Bd
  have e0 : s₁.heap = h0 := by rw [← hh, Bd.state]; rfl
  have N0 := Fr.nil n0
  refine Goes.out (Goes.by (fun tz kz => castTop (ef1_RII m ((w 2)) ((1 : Int32)) ((0 : Int32))) kz) ?_)
  show Goes p e below (s₁.setTop (mkF m 0 #[.val (.ref (w 2)), .val (.int (1 : Int32)), .val (.int (0 : Int32))] [])) _
  refine Goes.by (fun _ kz => XS.iloadN X0.here hx rfl (hb hby d1_0) rfl (XS.ifYes X0.here hx rfl (pc0 := 1) (pc' := 18) rfl (hb hby d1_1) rfl ((if0 _ _).trans (flt (by decide : ¬ ((1 : Int32) < (0 : Int32)))).2.1) (by decide) (by decide) (XS.iloadN X0.here hx rfl (hb hby d1_18) rfl kz))) ?_
  show Goes p e below (s₁.setTop (mkF m 19 #[.val (.ref (w 2)), .val (.int (1 : Int32)), .val (.int (0 : Int32))] [(.int (1 : Int32))])) _
  refine Goes.by (fun _ kz => XS.ifYes X0.here hx rfl (pc0 := 19) (pc' := 27) rfl (hb hby d1_19) rfl ((if0 _ _).trans (feq (by decide : ¬ ((1 : Int32) = (0 : Int32)))).2) (by decide) (by decide) (XS.iloadN X0.here hx rfl (hb hby d1_27) rfl (XS.iconst X0.here hx rfl (hb hby d1_28) kz))) ?_
  show Goes p e below (s₁.setTop (mkF m 29 #[.val (.ref (w 2)), .val (.int (1 : Int32)), .val (.int (0 : Int32))] [(.int (1 : Int32)), (.int (1 : Int32))])) _
  refine Goes.by (fun _ kz => XS.icmpNo X0.here hx rfl (hb hby d1_29) rfl (teq (by decide : (1 : Int32) = (1 : Int32))).2 (XS.iloadN X0.here hx rfl (hb hby d1_32) rfl (XS.ifYes X0.here hx rfl (pc0 := 33) (pc' := 43) rfl (hb hby d1_33) rfl ((if0 _ _).trans (teq (by decide : (0 : Int32) = (0 : Int32))).1) (by decide) (by decide) kz))) ?_
  show Goes p e below (s₁.setTop (mkF m 43 #[.val (.ref (w 2)), .val (.int (1 : Int32)), .val (.int (0 : Int32))] [])) _
  refine Goes.by (fun _ kz => XS.aloadN X0.here hx rfl (hb hby d1_43) rfl rfl kz) ?_
  obtain ⟨T62, X62, e62, st62⟩ := getF X0 hx hZ hown (host := "") (Or.inl (hw _ (List.mem_of_getElem? (i := 27) rfl))) Via.refl e0 P.2.2.2.2.2.2.2.2.2.2.2.2.2.2.2.2.2.2.2.2.2.2.2.2.2.2.2.2.2.2.2.2.2.2.2.2.2.2.2.2.2.2.2.2.2.2.2.2.2.2.2.1 (g := (mkF m 44 #[.val (.ref (w 2)), .val (.int (1 : Int32)), .val (.int (0 : Int32))] [(.ref (w 2))])) rfl rfl (hb hby d1_44)
  refine Goes.by st62 ?_
  show Goes p e below (T62.setTop (mkF m 47 #[.val (.ref (w 2)), .val (.int (1 : Int32)), .val (.int (0 : Int32))] [(.int (1 : Int32))])) _
  obtain ⟨fs, hr, hrun, hended, hW, hsame⟩ := X62.leave (v := some (.int (1 : Int32))) (fun h => by rw [Bd.returns] at h; cases h)
  exact ⟨_, _, retN X62 hx (t := .boolean) Bd.returns (by simp) (hb hby d1_47) hr, hrun, hended, _, _, rfl, ⟨rfl, N0, e62⟩, ⟨_, rfl⟩, hW, hsame.mono (by decide) (by decide)⟩
set_option maxRecDepth 65536 in
set_option maxHeartbeats 40000000 in
theorem r1_21 (l : Launch) (Z : State) (a0 : Array Value) (hw : ∀ d ∈ tables_1, d.before a0 Z = true) (ws : List Jvm.Cond) (h0 : Heap) (n0 : Nat) (Z0 : n0 ≤ h0.size) (w : Nat → Addr) (P : Pins Z h0 w) :
    MetFree l (⟨"com/example/entail/entail/model/Scope", "reaches", "(IZ)Z"⟩ : MethodName) (head1 (Jvm.Cond.code (⟨"com/example/entail/entail/model/Scope", "reaches", "(IZ)Z"⟩ : MethodName) prog_11_method_6_code 3 (some .boolean) :: ws) ({ frames := 0, cells := 0, slots := 0, locals := 0 } : Room)) (fun a U => a = #[(.ref (w 6)), (.int (1 : Int32)), (.int (0 : Int32))] ∧ Z.Warmed39 U.vm ∧ U.heap = h0) (fun _ _ _ _ _ => True) (fun _ U o U' => ∃ v L, o = .returned v ∧ QP (some (.int (1 : Int32))) h0 n0 v U'.heap L ∧ FrameEnd U o U' L ({ frames := 0, cells := 0, slots := 0, locals := 0 } : Room).cells ({ frames := 0, cells := 0, slots := 0, locals := 0 } : Room).slots) := by
  refine MetFree.of_bodySF (plainFor_of_name pn0) hisR ?_
  intro p e s m args below meth c s₁ Bd hml0 hP hK
  obtain ⟨rfl, hZ, hh⟩ := hP
  have hx := Bd.exec
  have hby := Bd.bytes
  have hml : c.maxLocals = 3 := hml0
  have hown : s.vm.findClass "com/example/entail/entail/model/Scope" = some m.cls := findClass_of_methodNamed Bd.named
  have hnm := (name_of_methodNamed Bd.named Bd.method).1
  have X0 : Stand p l e ({ frames := 0, cells := 0, slots := 0, locals := 0 } : Room) s m #[(.ref (w 6)), (.int (1 : Int32)), (.int (0 : Int32))] below meth c s₁ [] 0 0 := Stand.of_body Bd
  have e0 : s₁.heap = h0 := by rw [← hh, Bd.state]; rfl
  have N0 := Fr.nil n0
  refine Goes.out (Goes.by (fun tz kz => castTop (ef1_RII m ((w 6)) ((1 : Int32)) ((0 : Int32))) kz) ?_)
  show Goes p e below (s₁.setTop (mkF m 0 #[.val (.ref (w 6)), .val (.int (1 : Int32)), .val (.int (0 : Int32))] [])) _
  refine Goes.by (fun _ kz => XS.iloadN X0.here hx rfl (hb hby d1_0) rfl (XS.ifYes X0.here hx rfl (pc0 := 1) (pc' := 18) rfl (hb hby d1_1) rfl ((if0 _ _).trans (flt (by decide : ¬ ((1 : Int32) < (0 : Int32)))).2.1) (by decide) (by decide) (XS.iloadN X0.here hx rfl (hb hby d1_18) rfl kz))) ?_
  show Goes p e below (s₁.setTop (mkF m 19 #[.val (.ref (w 6)), .val (.int (1 : Int32)), .val (.int (0 : Int32))] [(.int (1 : Int32))])) _
  refine Goes.by (fun _ kz => XS.ifYes X0.here hx rfl (pc0 := 19) (pc' := 27) rfl (hb hby d1_19) rfl ((if0 _ _).trans (feq (by decide : ¬ ((1 : Int32) = (0 : Int32)))).2) (by decide) (by decide) (XS.iloadN X0.here hx rfl (hb hby d1_27) rfl (XS.iconst X0.here hx rfl (hb hby d1_28) kz))) ?_
  show Goes p e below (s₁.setTop (mkF m 29 #[.val (.ref (w 6)), .val (.int (1 : Int32)), .val (.int (0 : Int32))] [(.int (1 : Int32)), (.int (1 : Int32))])) _
  refine Goes.by (fun _ kz => XS.icmpNo X0.here hx rfl (hb hby d1_29) rfl (teq (by decide : (1 : Int32) = (1 : Int32))).2 (XS.iloadN X0.here hx rfl (hb hby d1_32) rfl (XS.ifYes X0.here hx rfl (pc0 := 33) (pc' := 43) rfl (hb hby d1_33) rfl ((if0 _ _).trans (teq (by decide : (0 : Int32) = (0 : Int32))).1) (by decide) (by decide) kz))) ?_
  show Goes p e below (s₁.setTop (mkF m 43 #[.val (.ref (w 6)), .val (.int (1 : Int32)), .val (.int (0 : Int32))] [])) _
  refine Goes.by (fun _ kz => XS.aloadN X0.here hx rfl (hb hby d1_43) rfl rfl kz) ?_
  obtain ⟨T65, X65, e65, st65⟩ := getF X0 hx hZ hown (host := "") (Or.inl (hw _ (List.mem_of_getElem? (i := 27) rfl))) Via.refl e0 P.2.2.2.2.2.2.2.2.2.2.2.2.2.2.2.2.2.2.2.2.2.2.2.2.2.2.2.2.2.2.2.2.2.2.2.2.2.2.2.2.2.2.2.2.2.2.2.1 (g := (mkF m 44 #[.val (.ref (w 6)), .val (.int (1 : Int32)), .val (.int (0 : Int32))] [(.ref (w 6))])) rfl rfl (hb hby d1_44)
  refine Goes.by st65 ?_
  show Goes p e below (T65.setTop (mkF m 47 #[.val (.ref (w 6)), .val (.int (1 : Int32)), .val (.int (0 : Int32))] [(.int (1 : Int32))])) _
  obtain ⟨fs, hr, hrun, hended, hW, hsame⟩ := X65.leave (v := some (.int (1 : Int32))) (fun h => by rw [Bd.returns] at h; cases h)
  exact ⟨_, _, retN X65 hx (t := .boolean) Bd.returns (by simp) (hb hby d1_47) hr, hrun, hended, _, _, rfl, ⟨rfl, N0, e65⟩, ⟨_, rfl⟩, hW, hsame.mono (by decide) (by decide)⟩
set_option maxRecDepth 65536 in
set_option maxHeartbeats 40000000 in
theorem r1_22 (l : Launch) (Z : State) (a0 : Array Value) (hw : ∀ d ∈ tables_1, d.before a0 Z = true) (ws : List Jvm.Cond) (h0 : Heap) (n0 : Nat) (Z0 : n0 ≤ h0.size) (w : Nat → Addr) (P : Pins Z h0 w) :
    MetFree l (⟨"com/example/entail/entail/model/Scope", "reaches", "(IZ)Z"⟩ : MethodName) (head1 (Jvm.Cond.code (⟨"com/example/entail/entail/model/Scope", "reaches", "(IZ)Z"⟩ : MethodName) prog_11_method_6_code 3 (some .boolean) :: ws) ({ frames := 0, cells := 0, slots := 0, locals := 0 } : Room)) (fun a U => a = #[(.ref (w 7)), (.int (1 : Int32)), (.int (0 : Int32))] ∧ Z.Warmed39 U.vm ∧ U.heap = h0) (fun _ _ _ _ _ => True) (fun _ U o U' => ∃ v L, o = .returned v ∧ QP (some (.int (0 : Int32))) h0 n0 v U'.heap L ∧ FrameEnd U o U' L ({ frames := 0, cells := 0, slots := 0, locals := 0 } : Room).cells ({ frames := 0, cells := 0, slots := 0, locals := 0 } : Room).slots) := by
  refine MetFree.of_bodySF (plainFor_of_name pn0) hisR ?_
  intro p e s m args below meth c s₁ Bd hml0 hP hK
  obtain ⟨rfl, hZ, hh⟩ := hP
  have hx := Bd.exec
  have hby := Bd.bytes
  have hml : c.maxLocals = 3 := hml0
  have hown : s.vm.findClass "com/example/entail/entail/model/Scope" = some m.cls := findClass_of_methodNamed Bd.named
  have hnm := (name_of_methodNamed Bd.named Bd.method).1
  have X0 : Stand p l e ({ frames := 0, cells := 0, slots := 0, locals := 0 } : Room) s m #[(.ref (w 7)), (.int (1 : Int32)), (.int (0 : Int32))] below meth c s₁ [] 0 0 := Stand.of_body Bd
  have e0 : s₁.heap = h0 := by rw [← hh, Bd.state]; rfl
  have N0 := Fr.nil n0
  refine Goes.out (Goes.by (fun tz kz => castTop (ef1_RII m ((w 7)) ((1 : Int32)) ((0 : Int32))) kz) ?_)
  show Goes p e below (s₁.setTop (mkF m 0 #[.val (.ref (w 7)), .val (.int (1 : Int32)), .val (.int (0 : Int32))] [])) _
  refine Goes.by (fun _ kz => XS.iloadN X0.here hx rfl (hb hby d1_0) rfl (XS.ifYes X0.here hx rfl (pc0 := 1) (pc' := 18) rfl (hb hby d1_1) rfl ((if0 _ _).trans (flt (by decide : ¬ ((1 : Int32) < (0 : Int32)))).2.1) (by decide) (by decide) (XS.iloadN X0.here hx rfl (hb hby d1_18) rfl kz))) ?_
  show Goes p e below (s₁.setTop (mkF m 19 #[.val (.ref (w 7)), .val (.int (1 : Int32)), .val (.int (0 : Int32))] [(.int (1 : Int32))])) _
  refine Goes.by (fun _ kz => XS.ifYes X0.here hx rfl (pc0 := 19) (pc' := 27) rfl (hb hby d1_19) rfl ((if0 _ _).trans (feq (by decide : ¬ ((1 : Int32) = (0 : Int32)))).2) (by decide) (by decide) (XS.iloadN X0.here hx rfl (hb hby d1_27) rfl (XS.iconst X0.here hx rfl (hb hby d1_28) kz))) ?_
  show Goes p e below (s₁.setTop (mkF m 29 #[.val (.ref (w 7)), .val (.int (1 : Int32)), .val (.int (0 : Int32))] [(.int (1 : Int32)), (.int (1 : Int32))])) _
  refine Goes.by (fun _ kz => XS.icmpNo X0.here hx rfl (hb hby d1_29) rfl (teq (by decide : (1 : Int32) = (1 : Int32))).2 (XS.iloadN X0.here hx rfl (hb hby d1_32) rfl (XS.ifYes X0.here hx rfl (pc0 := 33) (pc' := 43) rfl (hb hby d1_33) rfl ((if0 _ _).trans (teq (by decide : (0 : Int32) = (0 : Int32))).1) (by decide) (by decide) kz))) ?_
  show Goes p e below (s₁.setTop (mkF m 43 #[.val (.ref (w 7)), .val (.int (1 : Int32)), .val (.int (0 : Int32))] [])) _
  refine Goes.by (fun _ kz => XS.aloadN X0.here hx rfl (hb hby d1_43) rfl rfl kz) ?_
  obtain ⟨T68, X68, e68, st68⟩ := getF X0 hx hZ hown (host := "") (Or.inl (hw _ (List.mem_of_getElem? (i := 27) rfl))) Via.refl e0 P.2.2.2.2.2.2.2.2.2.2.2.2.2.2.2.2.2.2.2.2.2.2.2.2.2.2.2.2.2.2.2.2.2.2.2.2.2.2.2.2.2.2.2.2.2.2.2.2.2.2.2.2.2.2.2.2.2.2.1 (g := (mkF m 44 #[.val (.ref (w 7)), .val (.int (1 : Int32)), .val (.int (0 : Int32))] [(.ref (w 7))])) rfl rfl (hb hby d1_44)
  refine Goes.by st68 ?_
  show Goes p e below (T68.setTop (mkF m 47 #[.val (.ref (w 7)), .val (.int (1 : Int32)), .val (.int (0 : Int32))] [(.int (0 : Int32))])) _
  obtain ⟨fs, hr, hrun, hended, hW, hsame⟩ := X68.leave (v := some (.int (0 : Int32))) (fun h => by rw [Bd.returns] at h; cases h)
  exact ⟨_, _, retN X68 hx (t := .boolean) Bd.returns (by simp) (hb hby d1_47) hr, hrun, hended, _, _, rfl, ⟨rfl, N0, e68⟩, ⟨_, rfl⟩, hW, hsame.mono (by decide) (by decide)⟩
set_option maxRecDepth 65536 in
set_option maxHeartbeats 40000000 in
theorem r1_23 (l : Launch) (Z : State) (a0 : Array Value) (hw : ∀ d ∈ tables_1, d.before a0 Z = true) (ws : List Jvm.Cond) (h0 : Heap) (n0 : Nat) (Z0 : n0 ≤ h0.size) (w : Nat → Addr) (P : Pins Z h0 w) :
    MetFree l (⟨"com/example/entail/entail/model/Scope", "reaches", "(IZ)Z"⟩ : MethodName) (head1 (Jvm.Cond.code (⟨"com/example/entail/entail/model/Scope", "reaches", "(IZ)Z"⟩ : MethodName) prog_11_method_6_code 3 (some .boolean) :: ws) ({ frames := 0, cells := 0, slots := 0, locals := 0 } : Room)) (fun a U => a = #[(.ref (w 8)), (.int (1 : Int32)), (.int (0 : Int32))] ∧ Z.Warmed39 U.vm ∧ U.heap = h0) (fun _ _ _ _ _ => True) (fun _ U o U' => ∃ v L, o = .returned v ∧ QP (some (.int (1 : Int32))) h0 n0 v U'.heap L ∧ FrameEnd U o U' L ({ frames := 0, cells := 0, slots := 0, locals := 0 } : Room).cells ({ frames := 0, cells := 0, slots := 0, locals := 0 } : Room).slots) := by
  refine MetFree.of_bodySF (plainFor_of_name pn0) hisR ?_
  intro p e s m args below meth c s₁ Bd hml0 hP hK
  obtain ⟨rfl, hZ, hh⟩ := hP
  have hx := Bd.exec
  have hby := Bd.bytes
  have hml : c.maxLocals = 3 := hml0
  have hown : s.vm.findClass "com/example/entail/entail/model/Scope" = some m.cls := findClass_of_methodNamed Bd.named
  have hnm := (name_of_methodNamed Bd.named Bd.method).1
  have X0 : Stand p l e ({ frames := 0, cells := 0, slots := 0, locals := 0 } : Room) s m #[(.ref (w 8)), (.int (1 : Int32)), (.int (0 : Int32))] below meth c s₁ [] 0 0 := Stand.of_body Bd
  have e0 : s₁.heap = h0 := by rw [← hh, Bd.state]; rfl
  have N0 := Fr.nil n0
  refine Goes.out (Goes.by (fun tz kz => castTop (ef1_RII m ((w 8)) ((1 : Int32)) ((0 : Int32))) kz) ?_)
  show Goes p e below (s₁.setTop (mkF m 0 #[.val (.ref (w 8)), .val (.int (1 : Int32)), .val (.int (0 : Int32))] [])) _
  refine Goes.by (fun _ kz => XS.iloadN X0.here hx rfl (hb hby d1_0) rfl (XS.ifYes X0.here hx rfl (pc0 := 1) (pc' := 18) rfl (hb hby d1_1) rfl ((if0 _ _).trans (flt (by decide : ¬ ((1 : Int32) < (0 : Int32)))).2.1) (by decide) (by decide) (XS.iloadN X0.here hx rfl (hb hby d1_18) rfl kz))) ?_
  show Goes p e below (s₁.setTop (mkF m 19 #[.val (.ref (w 8)), .val (.int (1 : Int32)), .val (.int (0 : Int32))] [(.int (1 : Int32))])) _
  refine Goes.by (fun _ kz => XS.ifYes X0.here hx rfl (pc0 := 19) (pc' := 27) rfl (hb hby d1_19) rfl ((if0 _ _).trans (feq (by decide : ¬ ((1 : Int32) = (0 : Int32)))).2) (by decide) (by decide) (XS.iloadN X0.here hx rfl (hb hby d1_27) rfl (XS.iconst X0.here hx rfl (hb hby d1_28) kz))) ?_
  show Goes p e below (s₁.setTop (mkF m 29 #[.val (.ref (w 8)), .val (.int (1 : Int32)), .val (.int (0 : Int32))] [(.int (1 : Int32)), (.int (1 : Int32))])) _
  refine Goes.by (fun _ kz => XS.icmpNo X0.here hx rfl (hb hby d1_29) rfl (teq (by decide : (1 : Int32) = (1 : Int32))).2 (XS.iloadN X0.here hx rfl (hb hby d1_32) rfl (XS.ifYes X0.here hx rfl (pc0 := 33) (pc' := 43) rfl (hb hby d1_33) rfl ((if0 _ _).trans (teq (by decide : (0 : Int32) = (0 : Int32))).1) (by decide) (by decide) kz))) ?_
  show Goes p e below (s₁.setTop (mkF m 43 #[.val (.ref (w 8)), .val (.int (1 : Int32)), .val (.int (0 : Int32))] [])) _
  refine Goes.by (fun _ kz => XS.aloadN X0.here hx rfl (hb hby d1_43) rfl rfl kz) ?_
  obtain ⟨T71, X71, e71, st71⟩ := getF X0 hx hZ hown (host := "") (Or.inl (hw _ (List.mem_of_getElem? (i := 27) rfl))) Via.refl e0 P.2.2.2.2.2.2.2.2.2.2.2.2.2.2.2.2.2.2.2.2.2.2.2.2.2.2.2.2.2.2.2.2.2.2.2.2.2.2.2.2.2.2.2.2.2.2.2.2.2.2.2.2.2.2.2.2.2.2.2.2.2.1 (g := (mkF m 44 #[.val (.ref (w 8)), .val (.int (1 : Int32)), .val (.int (0 : Int32))] [(.ref (w 8))])) rfl rfl (hb hby d1_44)
  refine Goes.by st71 ?_
  show Goes p e below (T71.setTop (mkF m 47 #[.val (.ref (w 8)), .val (.int (1 : Int32)), .val (.int (0 : Int32))] [(.int (1 : Int32))])) _
  obtain ⟨fs, hr, hrun, hended, hW, hsame⟩ := X71.leave (v := some (.int (1 : Int32))) (fun h => by rw [Bd.returns] at h; cases h)
  exact ⟨_, _, retN X71 hx (t := .boolean) Bd.returns (by simp) (hb hby d1_47) hr, hrun, hended, _, _, rfl, ⟨rfl, N0, e71⟩, ⟨_, rfl⟩, hW, hsame.mono (by decide) (by decide)⟩
set_option maxRecDepth 65536 in
set_option maxHeartbeats 40000000 in
theorem r1_24 (l : Launch) (Z : State) (a0 : Array Value) (hw : ∀ d ∈ tables_1, d.before a0 Z = true) (ws : List Jvm.Cond) (h0 : Heap) (n0 : Nat) (Z0 : n0 ≤ h0.size) (w : Nat → Addr) (P : Pins Z h0 w) :
    MetFree l (⟨"com/example/entail/entail/model/Scope", "reaches", "(IZ)Z"⟩ : MethodName) (head1 (Jvm.Cond.code (⟨"com/example/entail/entail/model/Scope", "reaches", "(IZ)Z"⟩ : MethodName) prog_11_method_6_code 3 (some .boolean) :: ws) ({ frames := 0, cells := 0, slots := 0, locals := 0 } : Room)) (fun a U => a = #[(.ref (w 4)), (.int (1 : Int32)), (.int (0 : Int32))] ∧ Z.Warmed39 U.vm ∧ U.heap = h0) (fun _ _ _ _ _ => True) (fun _ U o U' => ∃ v L, o = .returned v ∧ QP (some (.int (1 : Int32))) h0 n0 v U'.heap L ∧ FrameEnd U o U' L ({ frames := 0, cells := 0, slots := 0, locals := 0 } : Room).cells ({ frames := 0, cells := 0, slots := 0, locals := 0 } : Room).slots) := by
  refine MetFree.of_bodySF (plainFor_of_name pn0) hisR ?_
  intro p e s m args below meth c s₁ Bd hml0 hP hK
  obtain ⟨rfl, hZ, hh⟩ := hP
  have hx := Bd.exec
  have hby := Bd.bytes
  have hml : c.maxLocals = 3 := hml0
  have hown : s.vm.findClass "com/example/entail/entail/model/Scope" = some m.cls := findClass_of_methodNamed Bd.named
  have hnm := (name_of_methodNamed Bd.named Bd.method).1
  have X0 : Stand p l e ({ frames := 0, cells := 0, slots := 0, locals := 0 } : Room) s m #[(.ref (w 4)), (.int (1 : Int32)), (.int (0 : Int32))] below meth c s₁ [] 0 0 := Stand.of_body Bd
  have e0 : s₁.heap = h0 := by rw [← hh, Bd.state]; rfl
  have N0 := Fr.nil n0
  refine Goes.out (Goes.by (fun tz kz => castTop (ef1_RII m ((w 4)) ((1 : Int32)) ((0 : Int32))) kz) ?_)
  show Goes p e below (s₁.setTop (mkF m 0 #[.val (.ref (w 4)), .val (.int (1 : Int32)), .val (.int (0 : Int32))] [])) _
  refine Goes.by (fun _ kz => XS.iloadN X0.here hx rfl (hb hby d1_0) rfl (XS.ifYes X0.here hx rfl (pc0 := 1) (pc' := 18) rfl (hb hby d1_1) rfl ((if0 _ _).trans (flt (by decide : ¬ ((1 : Int32) < (0 : Int32)))).2.1) (by decide) (by decide) (XS.iloadN X0.here hx rfl (hb hby d1_18) rfl kz))) ?_
  show Goes p e below (s₁.setTop (mkF m 19 #[.val (.ref (w 4)), .val (.int (1 : Int32)), .val (.int (0 : Int32))] [(.int (1 : Int32))])) _
  refine Goes.by (fun _ kz => XS.ifYes X0.here hx rfl (pc0 := 19) (pc' := 27) rfl (hb hby d1_19) rfl ((if0 _ _).trans (feq (by decide : ¬ ((1 : Int32) = (0 : Int32)))).2) (by decide) (by decide) (XS.iloadN X0.here hx rfl (hb hby d1_27) rfl (XS.iconst X0.here hx rfl (hb hby d1_28) kz))) ?_
  show Goes p e below (s₁.setTop (mkF m 29 #[.val (.ref (w 4)), .val (.int (1 : Int32)), .val (.int (0 : Int32))] [(.int (1 : Int32)), (.int (1 : Int32))])) _
  refine Goes.by (fun _ kz => XS.icmpNo X0.here hx rfl (hb hby d1_29) rfl (teq (by decide : (1 : Int32) = (1 : Int32))).2 (XS.iloadN X0.here hx rfl (hb hby d1_32) rfl (XS.ifYes X0.here hx rfl (pc0 := 33) (pc' := 43) rfl (hb hby d1_33) rfl ((if0 _ _).trans (teq (by decide : (0 : Int32) = (0 : Int32))).1) (by decide) (by decide) kz))) ?_
  show Goes p e below (s₁.setTop (mkF m 43 #[.val (.ref (w 4)), .val (.int (1 : Int32)), .val (.int (0 : Int32))] [])) _
  refine Goes.by (fun _ kz => XS.aloadN X0.here hx rfl (hb hby d1_43) rfl rfl kz) ?_
  obtain ⟨T74, X74, e74, st74⟩ := getF X0 hx hZ hown (host := "") (Or.inl (hw _ (List.mem_of_getElem? (i := 27) rfl))) Via.refl e0 P.2.2.2.2.2.2.2.2.2.2.2.2.2.2.2.2.2.2.2.2.2.2.2.2.2.2.2.2.2.2.2.2.2.2.2.2.2.2.2.2.2.2.2.2.2.2.2.2.2.2.2.2.1 (g := (mkF m 44 #[.val (.ref (w 4)), .val (.int (1 : Int32)), .val (.int (0 : Int32))] [(.ref (w 4))])) rfl rfl (hb hby d1_44)
  refine Goes.by st74 ?_
  show Goes p e below (T74.setTop (mkF m 47 #[.val (.ref (w 4)), .val (.int (1 : Int32)), .val (.int (0 : Int32))] [(.int (1 : Int32))])) _
  obtain ⟨fs, hr, hrun, hended, hW, hsame⟩ := X74.leave (v := some (.int (1 : Int32))) (fun h => by rw [Bd.returns] at h; cases h)
  exact ⟨_, _, retN X74 hx (t := .boolean) Bd.returns (by simp) (hb hby d1_47) hr, hrun, hended, _, _, rfl, ⟨rfl, N0, e74⟩, ⟨_, rfl⟩, hW, hsame.mono (by decide) (by decide)⟩
set_option maxRecDepth 65536 in
set_option maxHeartbeats 40000000 in
theorem r1_25 (l : Launch) (Z : State) (a0 : Array Value) (hw : ∀ d ∈ tables_1, d.before a0 Z = true) (ws : List Jvm.Cond) (h0 : Heap) (n0 : Nat) (Z0 : n0 ≤ h0.size) (w : Nat → Addr) (P : Pins Z h0 w) :
    MetFree l (⟨"com/example/entail/entail/model/Scope", "reaches", "(IZ)Z"⟩ : MethodName) (head1 (Jvm.Cond.code (⟨"com/example/entail/entail/model/Scope", "reaches", "(IZ)Z"⟩ : MethodName) prog_11_method_6_code 3 (some .boolean) :: ws) ({ frames := 0, cells := 0, slots := 0, locals := 0 } : Room)) (fun a U => a = #[(.ref (w 5)), (.int (1 : Int32)), (.int (0 : Int32))] ∧ Z.Warmed39 U.vm ∧ U.heap = h0) (fun _ _ _ _ _ => True) (fun _ U o U' => ∃ v L, o = .returned v ∧ QP (some (.int (1 : Int32))) h0 n0 v U'.heap L ∧ FrameEnd U o U' L ({ frames := 0, cells := 0, slots := 0, locals := 0 } : Room).cells ({ frames := 0, cells := 0, slots := 0, locals := 0 } : Room).slots) := by
  refine MetFree.of_bodySF (plainFor_of_name pn0) hisR ?_
  intro p e s m args below meth c s₁ Bd hml0 hP hK
  obtain ⟨rfl, hZ, hh⟩ := hP
  have hx := Bd.exec
  have hby := Bd.bytes
  have hml : c.maxLocals = 3 := hml0
  have hown : s.vm.findClass "com/example/entail/entail/model/Scope" = some m.cls := findClass_of_methodNamed Bd.named
  have hnm := (name_of_methodNamed Bd.named Bd.method).1
  have X0 : Stand p l e ({ frames := 0, cells := 0, slots := 0, locals := 0 } : Room) s m #[(.ref (w 5)), (.int (1 : Int32)), (.int (0 : Int32))] below meth c s₁ [] 0 0 := Stand.of_body Bd
  have e0 : s₁.heap = h0 := by rw [← hh, Bd.state]; rfl
  have N0 := Fr.nil n0
  refine Goes.out (Goes.by (fun tz kz => castTop (ef1_RII m ((w 5)) ((1 : Int32)) ((0 : Int32))) kz) ?_)
  show Goes p e below (s₁.setTop (mkF m 0 #[.val (.ref (w 5)), .val (.int (1 : Int32)), .val (.int (0 : Int32))] [])) _
  refine Goes.by (fun _ kz => XS.iloadN X0.here hx rfl (hb hby d1_0) rfl (XS.ifYes X0.here hx rfl (pc0 := 1) (pc' := 18) rfl (hb hby d1_1) rfl ((if0 _ _).trans (flt (by decide : ¬ ((1 : Int32) < (0 : Int32)))).2.1) (by decide) (by decide) (XS.iloadN X0.here hx rfl (hb hby d1_18) rfl kz))) ?_
  show Goes p e below (s₁.setTop (mkF m 19 #[.val (.ref (w 5)), .val (.int (1 : Int32)), .val (.int (0 : Int32))] [(.int (1 : Int32))])) _
  refine Goes.by (fun _ kz => XS.ifYes X0.here hx rfl (pc0 := 19) (pc' := 27) rfl (hb hby d1_19) rfl ((if0 _ _).trans (feq (by decide : ¬ ((1 : Int32) = (0 : Int32)))).2) (by decide) (by decide) (XS.iloadN X0.here hx rfl (hb hby d1_27) rfl (XS.iconst X0.here hx rfl (hb hby d1_28) kz))) ?_
  show Goes p e below (s₁.setTop (mkF m 29 #[.val (.ref (w 5)), .val (.int (1 : Int32)), .val (.int (0 : Int32))] [(.int (1 : Int32)), (.int (1 : Int32))])) _
  refine Goes.by (fun _ kz => XS.icmpNo X0.here hx rfl (hb hby d1_29) rfl (teq (by decide : (1 : Int32) = (1 : Int32))).2 (XS.iloadN X0.here hx rfl (hb hby d1_32) rfl (XS.ifYes X0.here hx rfl (pc0 := 33) (pc' := 43) rfl (hb hby d1_33) rfl ((if0 _ _).trans (teq (by decide : (0 : Int32) = (0 : Int32))).1) (by decide) (by decide) kz))) ?_
  show Goes p e below (s₁.setTop (mkF m 43 #[.val (.ref (w 5)), .val (.int (1 : Int32)), .val (.int (0 : Int32))] [])) _
  refine Goes.by (fun _ kz => XS.aloadN X0.here hx rfl (hb hby d1_43) rfl rfl kz) ?_
  obtain ⟨T77, X77, e77, st77⟩ := getF X0 hx hZ hown (host := "") (Or.inl (hw _ (List.mem_of_getElem? (i := 27) rfl))) Via.refl e0 P.2.2.2.2.2.2.2.2.2.2.2.2.2.2.2.2.2.2.2.2.2.2.2.2.2.2.2.2.2.2.2.2.2.2.2.2.2.2.2.2.2.2.2.2.2.2.2.2.2.2.2.2.2.2.2.2.2.2.2.1 (g := (mkF m 44 #[.val (.ref (w 5)), .val (.int (1 : Int32)), .val (.int (0 : Int32))] [(.ref (w 5))])) rfl rfl (hb hby d1_44)
  refine Goes.by st77 ?_
  show Goes p e below (T77.setTop (mkF m 47 #[.val (.ref (w 5)), .val (.int (1 : Int32)), .val (.int (0 : Int32))] [(.int (1 : Int32))])) _
  obtain ⟨fs, hr, hrun, hended, hW, hsame⟩ := X77.leave (v := some (.int (1 : Int32))) (fun h => by rw [Bd.returns] at h; cases h)
  exact ⟨_, _, retN X77 hx (t := .boolean) Bd.returns (by simp) (hb hby d1_47) hr, hrun, hended, _, _, rfl, ⟨rfl, N0, e77⟩, ⟨_, rfl⟩, hW, hsame.mono (by decide) (by decide)⟩
set_option maxRecDepth 65536 in
set_option maxHeartbeats 40000000 in
theorem r1_26 (l : Launch) (Z : State) (a0 : Array Value) (hw : ∀ d ∈ tables_1, d.before a0 Z = true) (ws : List Jvm.Cond) (h0 : Heap) (n0 : Nat) (Z0 : n0 ≤ h0.size) (w : Nat → Addr) (P : Pins Z h0 w) :
    MetFree l (⟨"com/example/entail/entail/model/Scope", "reaches", "(IZ)Z"⟩ : MethodName) (head1 (Jvm.Cond.code (⟨"com/example/entail/entail/model/Scope", "reaches", "(IZ)Z"⟩ : MethodName) prog_11_method_6_code 3 (some .boolean) :: ws) ({ frames := 0, cells := 0, slots := 0, locals := 0 } : Room)) (fun a U => a = #[(.ref (w 3)), (.int (1 : Int32)), (.int (0 : Int32))] ∧ Z.Warmed39 U.vm ∧ U.heap = h0) (fun _ _ _ _ _ => True) (fun _ U o U' => ∃ v L, o = .returned v ∧ QP (some (.int (0 : Int32))) h0 n0 v U'.heap L ∧ FrameEnd U o U' L ({ frames := 0, cells := 0, slots := 0, locals := 0 } : Room).cells ({ frames := 0, cells := 0, slots := 0, locals := 0 } : Room).slots) := by
  refine MetFree.of_bodySF (plainFor_of_name pn0) hisR ?_
  intro p e s m args below meth c s₁ Bd hml0 hP hK
  obtain ⟨rfl, hZ, hh⟩ := hP
  have hx := Bd.exec
  have hby := Bd.bytes
  have hml : c.maxLocals = 3 := hml0
  have hown : s.vm.findClass "com/example/entail/entail/model/Scope" = some m.cls := findClass_of_methodNamed Bd.named
  have hnm := (name_of_methodNamed Bd.named Bd.method).1
  have X0 : Stand p l e ({ frames := 0, cells := 0, slots := 0, locals := 0 } : Room) s m #[(.ref (w 3)), (.int (1 : Int32)), (.int (0 : Int32))] below meth c s₁ [] 0 0 := Stand.of_body Bd
  have e0 : s₁.heap = h0 := by rw [← hh, Bd.state]; rfl
  have N0 := Fr.nil n0
  refine Goes.out (Goes.by (fun tz kz => castTop (ef1_RII m ((w 3)) ((1 : Int32)) ((0 : Int32))) kz) ?_)
  show Goes p e below (s₁.setTop (mkF m 0 #[.val (.ref (w 3)), .val (.int (1 : Int32)), .val (.int (0 : Int32))] [])) _
  refine Goes.by (fun _ kz => XS.iloadN X0.here hx rfl (hb hby d1_0) rfl (XS.ifYes X0.here hx rfl (pc0 := 1) (pc' := 18) rfl (hb hby d1_1) rfl ((if0 _ _).trans (flt (by decide : ¬ ((1 : Int32) < (0 : Int32)))).2.1) (by decide) (by decide) (XS.iloadN X0.here hx rfl (hb hby d1_18) rfl kz))) ?_
  show Goes p e below (s₁.setTop (mkF m 19 #[.val (.ref (w 3)), .val (.int (1 : Int32)), .val (.int (0 : Int32))] [(.int (1 : Int32))])) _
  refine Goes.by (fun _ kz => XS.ifYes X0.here hx rfl (pc0 := 19) (pc' := 27) rfl (hb hby d1_19) rfl ((if0 _ _).trans (feq (by decide : ¬ ((1 : Int32) = (0 : Int32)))).2) (by decide) (by decide) (XS.iloadN X0.here hx rfl (hb hby d1_27) rfl (XS.iconst X0.here hx rfl (hb hby d1_28) kz))) ?_
  show Goes p e below (s₁.setTop (mkF m 29 #[.val (.ref (w 3)), .val (.int (1 : Int32)), .val (.int (0 : Int32))] [(.int (1 : Int32)), (.int (1 : Int32))])) _
  refine Goes.by (fun _ kz => XS.icmpNo X0.here hx rfl (hb hby d1_29) rfl (teq (by decide : (1 : Int32) = (1 : Int32))).2 (XS.iloadN X0.here hx rfl (hb hby d1_32) rfl (XS.ifYes X0.here hx rfl (pc0 := 33) (pc' := 43) rfl (hb hby d1_33) rfl ((if0 _ _).trans (teq (by decide : (0 : Int32) = (0 : Int32))).1) (by decide) (by decide) kz))) ?_
  show Goes p e below (s₁.setTop (mkF m 43 #[.val (.ref (w 3)), .val (.int (1 : Int32)), .val (.int (0 : Int32))] [])) _
  refine Goes.by (fun _ kz => XS.aloadN X0.here hx rfl (hb hby d1_43) rfl rfl kz) ?_
  obtain ⟨T80, X80, e80, st80⟩ := getF X0 hx hZ hown (host := "") (Or.inl (hw _ (List.mem_of_getElem? (i := 27) rfl))) Via.refl e0 P.2.2.2.2.2.2.2.2.2.2.2.2.2.2.2.2.2.2.2.2.2.2.2.2.2.2.2.1 (g := (mkF m 44 #[.val (.ref (w 3)), .val (.int (1 : Int32)), .val (.int (0 : Int32))] [(.ref (w 3))])) rfl rfl (hb hby d1_44)
  refine Goes.by st80 ?_
  show Goes p e below (T80.setTop (mkF m 47 #[.val (.ref (w 3)), .val (.int (1 : Int32)), .val (.int (0 : Int32))] [(.int (0 : Int32))])) _
  obtain ⟨fs, hr, hrun, hended, hW, hsame⟩ := X80.leave (v := some (.int (0 : Int32))) (fun h => by rw [Bd.returns] at h; cases h)
  exact ⟨_, _, retN X80 hx (t := .boolean) Bd.returns (by simp) (hb hby d1_47) hr, hrun, hended, _, _, rfl, ⟨rfl, N0, e80⟩, ⟨_, rfl⟩, hW, hsame.mono (by decide) (by decide)⟩
set_option maxRecDepth 65536 in
set_option maxHeartbeats 40000000 in
theorem r1_27 (l : Launch) (Z : State) (a0 : Array Value) (hw : ∀ d ∈ tables_1, d.before a0 Z = true) (ws : List Jvm.Cond) (h0 : Heap) (n0 : Nat) (Z0 : n0 ≤ h0.size) (w : Nat → Addr) (P : Pins Z h0 w) :
    MetFree l (⟨"com/example/entail/entail/model/Scope", "reaches", "(IZ)Z"⟩ : MethodName) (head1 (Jvm.Cond.code (⟨"com/example/entail/entail/model/Scope", "reaches", "(IZ)Z"⟩ : MethodName) prog_11_method_6_code 3 (some .boolean) :: ws) ({ frames := 0, cells := 0, slots := 0, locals := 0 } : Room)) (fun a U => a = #[(.ref (w 0)), (.int (1 : Int32)), (.int (1 : Int32))] ∧ Z.Warmed39 U.vm ∧ U.heap = h0) (fun _ _ _ _ _ => True) (fun _ U o U' => ∃ v L, o = .returned v ∧ QP (some (.int (1 : Int32))) h0 n0 v U'.heap L ∧ FrameEnd U o U' L ({ frames := 0, cells := 0, slots := 0, locals := 0 } : Room).cells ({ frames := 0, cells := 0, slots := 0, locals := 0 } : Room).slots) := by
  refine MetFree.of_bodySF (plainFor_of_name pn0) hisR ?_
  intro p e s m args below meth c s₁ Bd hml0 hP hK
  obtain ⟨rfl, hZ, hh⟩ := hP
  have hx := Bd.exec
  have hby := Bd.bytes
  have hml : c.maxLocals = 3 := hml0
  have hown : s.vm.findClass "com/example/entail/entail/model/Scope" = some m.cls := findClass_of_methodNamed Bd.named
  have hnm := (name_of_methodNamed Bd.named Bd.method).1
  have X0 : Stand p l e ({ frames := 0, cells := 0, slots := 0, locals := 0 } : Room) s m #[(.ref (w 0)), (.int (1 : Int32)), (.int (1 : Int32))] below meth c s₁ [] 0 0 := Stand.of_body Bd
  have e0 : s₁.heap = h0 := by rw [← hh, Bd.state]; rfl
  have N0 := Fr.nil n0
  refine Goes.out (Goes.by (fun tz kz => castTop (ef1_RII m ((w 0)) ((1 : Int32)) ((1 : Int32))) kz) ?_)
  show Goes p e below (s₁.setTop (mkF m 0 #[.val (.ref (w 0)), .val (.int (1 : Int32)), .val (.int (1 : Int32))] [])) _
  refine Goes.by (fun _ kz => XS.iloadN X0.here hx rfl (hb hby d1_0) rfl (XS.ifYes X0.here hx rfl (pc0 := 1) (pc' := 18) rfl (hb hby d1_1) rfl ((if0 _ _).trans (flt (by decide : ¬ ((1 : Int32) < (0 : Int32)))).2.1) (by decide) (by decide) (XS.iloadN X0.here hx rfl (hb hby d1_18) rfl kz))) ?_
  show Goes p e below (s₁.setTop (mkF m 19 #[.val (.ref (w 0)), .val (.int (1 : Int32)), .val (.int (1 : Int32))] [(.int (1 : Int32))])) _
  refine Goes.by (fun _ kz => XS.ifYes X0.here hx rfl (pc0 := 19) (pc' := 27) rfl (hb hby d1_19) rfl ((if0 _ _).trans (feq (by decide : ¬ ((1 : Int32) = (0 : Int32)))).2) (by decide) (by decide) (XS.iloadN X0.here hx rfl (hb hby d1_27) rfl (XS.iconst X0.here hx rfl (hb hby d1_28) kz))) ?_
  show Goes p e below (s₁.setTop (mkF m 29 #[.val (.ref (w 0)), .val (.int (1 : Int32)), .val (.int (1 : Int32))] [(.int (1 : Int32)), (.int (1 : Int32))])) _
  refine Goes.by (fun _ kz => XS.icmpNo X0.here hx rfl (hb hby d1_29) rfl (teq (by decide : (1 : Int32) = (1 : Int32))).2 (XS.iloadN X0.here hx rfl (hb hby d1_32) rfl (XS.ifNo X0.here hx rfl (hb hby d1_33) rfl ((if0 _ _).trans (feq (by decide : ¬ ((1 : Int32) = (0 : Int32)))).1) kz))) ?_
  show Goes p e below (s₁.setTop (mkF m 36 #[.val (.ref (w 0)), .val (.int (1 : Int32)), .val (.int (1 : Int32))] [])) _
  refine Goes.by (fun _ kz => XS.aloadN X0.here hx rfl (hb hby d1_36) rfl rfl kz) ?_
  obtain ⟨T83, X83, e83, st83⟩ := getF X0 hx hZ hown (host := "") (Or.inl (hw _ (List.mem_of_getElem? (i := 33) rfl))) Via.refl e0 P.2.2.2.2.2.2.2.2.2.2.2.2.2.2.2.2.2.2.2.2.2.2.2.2.2.2.2.2.2.2.2.2.2.2.2.2.2.2.2.2.2.2.2.2.2.2.2.2.2.2.2.2.2.1 (g := (mkF m 37 #[.val (.ref (w 0)), .val (.int (1 : Int32)), .val (.int (1 : Int32))] [(.ref (w 0))])) rfl rfl (hb hby d1_37)
  refine Goes.by st83 ?_
  refine Goes.by (fun _ kz => XS.goto X83.here hx rfl (pc0 := 40) (pc' := 47) rfl (hb hby d1_40) (by decide) (by decide) kz) ?_
  show Goes p e below (T83.setTop (mkF m 47 #[.val (.ref (w 0)), .val (.int (1 : Int32)), .val (.int (1 : Int32))] [(.int (1 : Int32))])) _
  obtain ⟨fs, hr, hrun, hended, hW, hsame⟩ := X83.leave (v := some (.int (1 : Int32))) (fun h => by rw [Bd.returns] at h; cases h)
  exact ⟨_, _, retN X83 hx (t := .boolean) Bd.returns (by simp) (hb hby d1_47) hr, hrun, hended, _, _, rfl, ⟨rfl, N0, e83⟩, ⟨_, rfl⟩, hW, hsame.mono (by decide) (by decide)⟩
set_option maxRecDepth 65536 in
set_option maxHeartbeats 40000000 in
theorem r1_28 (l : Launch) (Z : State) (a0 : Array Value) (hw : ∀ d ∈ tables_1, d.before a0 Z = true) (ws : List Jvm.Cond) (h0 : Heap) (n0 : Nat) (Z0 : n0 ≤ h0.size) (w : Nat → Addr) (P : Pins Z h0 w) :
    MetFree l (⟨"com/example/entail/entail/model/Scope", "reaches", "(IZ)Z"⟩ : MethodName) (head1 (Jvm.Cond.code (⟨"com/example/entail/entail/model/Scope", "reaches", "(IZ)Z"⟩ : MethodName) prog_11_method_6_code 3 (some .boolean) :: ws) ({ frames := 0, cells := 0, slots := 0, locals := 0 } : Room)) (fun a U => a = #[(.ref (w 1)), (.int (1 : Int32)), (.int (1 : Int32))] ∧ Z.Warmed39 U.vm ∧ U.heap = h0) (fun _ _ _ _ _ => True) (fun _ U o U' => ∃ v L, o = .returned v ∧ QP (some (.int (1 : Int32))) h0 n0 v U'.heap L ∧ FrameEnd U o U' L ({ frames := 0, cells := 0, slots := 0, locals := 0 } : Room).cells ({ frames := 0, cells := 0, slots := 0, locals := 0 } : Room).slots) := by
  refine MetFree.of_bodySF (plainFor_of_name pn0) hisR ?_
  intro p e s m args below meth c s₁ Bd hml0 hP hK
  obtain ⟨rfl, hZ, hh⟩ := hP
  have hx := Bd.exec
  have hby := Bd.bytes
  have hml : c.maxLocals = 3 := hml0
  have hown : s.vm.findClass "com/example/entail/entail/model/Scope" = some m.cls := findClass_of_methodNamed Bd.named
  have hnm := (name_of_methodNamed Bd.named Bd.method).1
  have X0 : Stand p l e ({ frames := 0, cells := 0, slots := 0, locals := 0 } : Room) s m #[(.ref (w 1)), (.int (1 : Int32)), (.int (1 : Int32))] below meth c s₁ [] 0 0 := Stand.of_body Bd
  have e0 : s₁.heap = h0 := by rw [← hh, Bd.state]; rfl
  have N0 := Fr.nil n0
  refine Goes.out (Goes.by (fun tz kz => castTop (ef1_RII m ((w 1)) ((1 : Int32)) ((1 : Int32))) kz) ?_)
  show Goes p e below (s₁.setTop (mkF m 0 #[.val (.ref (w 1)), .val (.int (1 : Int32)), .val (.int (1 : Int32))] [])) _
  refine Goes.by (fun _ kz => XS.iloadN X0.here hx rfl (hb hby d1_0) rfl (XS.ifYes X0.here hx rfl (pc0 := 1) (pc' := 18) rfl (hb hby d1_1) rfl ((if0 _ _).trans (flt (by decide : ¬ ((1 : Int32) < (0 : Int32)))).2.1) (by decide) (by decide) (XS.iloadN X0.here hx rfl (hb hby d1_18) rfl kz))) ?_
  show Goes p e below (s₁.setTop (mkF m 19 #[.val (.ref (w 1)), .val (.int (1 : Int32)), .val (.int (1 : Int32))] [(.int (1 : Int32))])) _
  refine Goes.by (fun _ kz => XS.ifYes X0.here hx rfl (pc0 := 19) (pc' := 27) rfl (hb hby d1_19) rfl ((if0 _ _).trans (feq (by decide : ¬ ((1 : Int32) = (0 : Int32)))).2) (by decide) (by decide) (XS.iloadN X0.here hx rfl (hb hby d1_27) rfl (XS.iconst X0.here hx rfl (hb hby d1_28) kz))) ?_
  show Goes p e below (s₁.setTop (mkF m 29 #[.val (.ref (w 1)), .val (.int (1 : Int32)), .val (.int (1 : Int32))] [(.int (1 : Int32)), (.int (1 : Int32))])) _
  refine Goes.by (fun _ kz => XS.icmpNo X0.here hx rfl (hb hby d1_29) rfl (teq (by decide : (1 : Int32) = (1 : Int32))).2 (XS.iloadN X0.here hx rfl (hb hby d1_32) rfl (XS.ifNo X0.here hx rfl (hb hby d1_33) rfl ((if0 _ _).trans (feq (by decide : ¬ ((1 : Int32) = (0 : Int32)))).1) kz))) ?_
  show Goes p e below (s₁.setTop (mkF m 36 #[.val (.ref (w 1)), .val (.int (1 : Int32)), .val (.int (1 : Int32))] [])) _
  refine Goes.by (fun _ kz => XS.aloadN X0.here hx rfl (hb hby d1_36) rfl rfl kz) ?_
  obtain ⟨T86, X86, e86, st86⟩ := getF X0 hx hZ hown (host := "") (Or.inl (hw _ (List.mem_of_getElem? (i := 33) rfl))) Via.refl e0 P.2.2.2.2.2.2.2.2.2.2.2.2.2.2.2.2.2.2.2.2.2.2.2.2.2.2.2.2.2.2.2.2.2.2.2.2.2.2.2.2.2.2.2.2.2.2.2.2.2.2.1 (g := (mkF m 37 #[.val (.ref (w 1)), .val (.int (1 : Int32)), .val (.int (1 : Int32))] [(.ref (w 1))])) rfl rfl (hb hby d1_37)
  refine Goes.by st86 ?_
  refine Goes.by (fun _ kz => XS.goto X86.here hx rfl (pc0 := 40) (pc' := 47) rfl (hb hby d1_40) (by decide) (by decide) kz) ?_
  show Goes p e below (T86.setTop (mkF m 47 #[.val (.ref (w 1)), .val (.int (1 : Int32)), .val (.int (1 : Int32))] [(.int (1 : Int32))])) _
  obtain ⟨fs, hr, hrun, hended, hW, hsame⟩ := X86.leave (v := some (.int (1 : Int32))) (fun h => by rw [Bd.returns] at h; cases h)
  exact ⟨_, _, retN X86 hx (t := .boolean) Bd.returns (by simp) (hb hby d1_47) hr, hrun, hended, _, _, rfl, ⟨rfl, N0, e86⟩, ⟨_, rfl⟩, hW, hsame.mono (by decide) (by decide)⟩
set_option maxRecDepth 65536 in
set_option maxHeartbeats 40000000 in
theorem r1_29 (l : Launch) (Z : State) (a0 : Array Value) (hw : ∀ d ∈ tables_1, d.before a0 Z = true) (ws : List Jvm.Cond) (h0 : Heap) (n0 : Nat) (Z0 : n0 ≤ h0.size) (w : Nat → Addr) (P : Pins Z h0 w) :
    MetFree l (⟨"com/example/entail/entail/model/Scope", "reaches", "(IZ)Z"⟩ : MethodName) (head1 (Jvm.Cond.code (⟨"com/example/entail/entail/model/Scope", "reaches", "(IZ)Z"⟩ : MethodName) prog_11_method_6_code 3 (some .boolean) :: ws) ({ frames := 0, cells := 0, slots := 0, locals := 0 } : Room)) (fun a U => a = #[(.ref (w 2)), (.int (1 : Int32)), (.int (1 : Int32))] ∧ Z.Warmed39 U.vm ∧ U.heap = h0) (fun _ _ _ _ _ => True) (fun _ U o U' => ∃ v L, o = .returned v ∧ QP (some (.int (1 : Int32))) h0 n0 v U'.heap L ∧ FrameEnd U o U' L ({ frames := 0, cells := 0, slots := 0, locals := 0 } : Room).cells ({ frames := 0, cells := 0, slots := 0, locals := 0 } : Room).slots) := by
  refine MetFree.of_bodySF (plainFor_of_name pn0) hisR ?_
  intro p e s m args below meth c s₁ Bd hml0 hP hK
  obtain ⟨rfl, hZ, hh⟩ := hP
  have hx := Bd.exec
  have hby := Bd.bytes
  have hml : c.maxLocals = 3 := hml0
  have hown : s.vm.findClass "com/example/entail/entail/model/Scope" = some m.cls := findClass_of_methodNamed Bd.named
  have hnm := (name_of_methodNamed Bd.named Bd.method).1
  have X0 : Stand p l e ({ frames := 0, cells := 0, slots := 0, locals := 0 } : Room) s m #[(.ref (w 2)), (.int (1 : Int32)), (.int (1 : Int32))] below meth c s₁ [] 0 0 := Stand.of_body Bd
  have e0 : s₁.heap = h0 := by rw [← hh, Bd.state]; rfl
  have N0 := Fr.nil n0
  refine Goes.out (Goes.by (fun tz kz => castTop (ef1_RII m ((w 2)) ((1 : Int32)) ((1 : Int32))) kz) ?_)
  show Goes p e below (s₁.setTop (mkF m 0 #[.val (.ref (w 2)), .val (.int (1 : Int32)), .val (.int (1 : Int32))] [])) _
  refine Goes.by (fun _ kz => XS.iloadN X0.here hx rfl (hb hby d1_0) rfl (XS.ifYes X0.here hx rfl (pc0 := 1) (pc' := 18) rfl (hb hby d1_1) rfl ((if0 _ _).trans (flt (by decide : ¬ ((1 : Int32) < (0 : Int32)))).2.1) (by decide) (by decide) (XS.iloadN X0.here hx rfl (hb hby d1_18) rfl kz))) ?_
  show Goes p e below (s₁.setTop (mkF m 19 #[.val (.ref (w 2)), .val (.int (1 : Int32)), .val (.int (1 : Int32))] [(.int (1 : Int32))])) _
  refine Goes.by (fun _ kz => XS.ifYes X0.here hx rfl (pc0 := 19) (pc' := 27) rfl (hb hby d1_19) rfl ((if0 _ _).trans (feq (by decide : ¬ ((1 : Int32) = (0 : Int32)))).2) (by decide) (by decide) (XS.iloadN X0.here hx rfl (hb hby d1_27) rfl (XS.iconst X0.here hx rfl (hb hby d1_28) kz))) ?_
  show Goes p e below (s₁.setTop (mkF m 29 #[.val (.ref (w 2)), .val (.int (1 : Int32)), .val (.int (1 : Int32))] [(.int (1 : Int32)), (.int (1 : Int32))])) _
  refine Goes.by (fun _ kz => XS.icmpNo X0.here hx rfl (hb hby d1_29) rfl (teq (by decide : (1 : Int32) = (1 : Int32))).2 (XS.iloadN X0.here hx rfl (hb hby d1_32) rfl (XS.ifNo X0.here hx rfl (hb hby d1_33) rfl ((if0 _ _).trans (feq (by decide : ¬ ((1 : Int32) = (0 : Int32)))).1) kz))) ?_
  show Goes p e below (s₁.setTop (mkF m 36 #[.val (.ref (w 2)), .val (.int (1 : Int32)), .val (.int (1 : Int32))] [])) _
  refine Goes.by (fun _ kz => XS.aloadN X0.here hx rfl (hb hby d1_36) rfl rfl kz) ?_
  obtain ⟨T89, X89, e89, st89⟩ := getF X0 hx hZ hown (host := "") (Or.inl (hw _ (List.mem_of_getElem? (i := 33) rfl))) Via.refl e0 P.2.2.2.2.2.2.2.2.2.2.2.2.2.2.2.2.2.2.2.2.2.2.2.2.2.2.2.2.2.2.2.2.2.2.2.2.2.2.2.2.2.2.1 (g := (mkF m 37 #[.val (.ref (w 2)), .val (.int (1 : Int32)), .val (.int (1 : Int32))] [(.ref (w 2))])) rfl rfl (hb hby d1_37)
  refine Goes.by st89 ?_
  refine Goes.by (fun _ kz => XS.goto X89.here hx rfl (pc0 := 40) (pc' := 47) rfl (hb hby d1_40) (by decide) (by decide) kz) ?_
  show Goes p e below (T89.setTop (mkF m 47 #[.val (.ref (w 2)), .val (.int (1 : Int32)), .val (.int (1 : Int32))] [(.int (1 : Int32))])) _
  obtain ⟨fs, hr, hrun, hended, hW, hsame⟩ := X89.leave (v := some (.int (1 : Int32))) (fun h => by rw [Bd.returns] at h; cases h)
  exact ⟨_, _, retN X89 hx (t := .boolean) Bd.returns (by simp) (hb hby d1_47) hr, hrun, hended, _, _, rfl, ⟨rfl, N0, e89⟩, ⟨_, rfl⟩, hW, hsame.mono (by decide) (by decide)⟩
set_option maxRecDepth 65536 in
set_option maxHeartbeats 40000000 in
theorem r1_30 (l : Launch) (Z : State) (a0 : Array Value) (hw : ∀ d ∈ tables_1, d.before a0 Z = true) (ws : List Jvm.Cond) (h0 : Heap) (n0 : Nat) (Z0 : n0 ≤ h0.size) (w : Nat → Addr) (P : Pins Z h0 w) :
    MetFree l (⟨"com/example/entail/entail/model/Scope", "reaches", "(IZ)Z"⟩ : MethodName) (head1 (Jvm.Cond.code (⟨"com/example/entail/entail/model/Scope", "reaches", "(IZ)Z"⟩ : MethodName) prog_11_method_6_code 3 (some .boolean) :: ws) ({ frames := 0, cells := 0, slots := 0, locals := 0 } : Room)) (fun a U => a = #[(.ref (w 6)), (.int (1 : Int32)), (.int (1 : Int32))] ∧ Z.Warmed39 U.vm ∧ U.heap = h0) (fun _ _ _ _ _ => True) (fun _ U o U' => ∃ v L, o = .returned v ∧ QP (some (.int (1 : Int32))) h0 n0 v U'.heap L ∧ FrameEnd U o U' L ({ frames := 0, cells := 0, slots := 0, locals := 0 } : Room).cells ({ frames := 0, cells := 0, slots := 0, locals := 0 } : Room).slots) := by
  refine MetFree.of_bodySF (plainFor_of_name pn0) hisR ?_
  intro p e s m args below meth c s₁ Bd hml0 hP hK
  obtain ⟨rfl, hZ, hh⟩ := hP
  have hx := Bd.exec
  have hby := Bd.bytes
  have hml : c.maxLocals = 3 := hml0
  have hown : s.vm.findClass "com/example/entail/entail/model/Scope" = some m.cls := findClass_of_methodNamed Bd.named
  have hnm := (name_of_methodNamed Bd.named Bd.method).1
  have X0 : Stand p l e ({ frames := 0, cells := 0, slots := 0, locals := 0 } : Room) s m #[(.ref (w 6)), (.int (1 : Int32)), (.int (1 : Int32))] below meth c s₁ [] 0 0 := Stand.of_body Bd
  have e0 : s₁.heap = h0 := by rw [← hh, Bd.state]; rfl
  have N0 := Fr.nil n0
  refine Goes.out (Goes.by (fun tz kz => castTop (ef1_RII m ((w 6)) ((1 : Int32)) ((1 : Int32))) kz) ?_)
  show Goes p e below (s₁.setTop (mkF m 0 #[.val (.ref (w 6)), .val (.int (1 : Int32)), .val (.int (1 : Int32))] [])) _
  refine Goes.by (fun _ kz => XS.iloadN X0.here hx rfl (hb hby d1_0) rfl (XS.ifYes X0.here hx rfl (pc0 := 1) (pc' := 18) rfl (hb hby d1_1) rfl ((if0 _ _).trans (flt (by decide : ¬ ((1 : Int32) < (0 : Int32)))).2.1) (by decide) (by decide) (XS.iloadN X0.here hx rfl (hb hby d1_18) rfl kz))) ?_
  show Goes p e below (s₁.setTop (mkF m 19 #[.val (.ref (w 6)), .val (.int (1 : Int32)), .val (.int (1 : Int32))] [(.int (1 : Int32))])) _
  refine Goes.by (fun _ kz => XS.ifYes X0.here hx rfl (pc0 := 19) (pc' := 27) rfl (hb hby d1_19) rfl ((if0 _ _).trans (feq (by decide : ¬ ((1 : Int32) = (0 : Int32)))).2) (by decide) (by decide) (XS.iloadN X0.here hx rfl (hb hby d1_27) rfl (XS.iconst X0.here hx rfl (hb hby d1_28) kz))) ?_
  show Goes p e below (s₁.setTop (mkF m 29 #[.val (.ref (w 6)), .val (.int (1 : Int32)), .val (.int (1 : Int32))] [(.int (1 : Int32)), (.int (1 : Int32))])) _
  refine Goes.by (fun _ kz => XS.icmpNo X0.here hx rfl (hb hby d1_29) rfl (teq (by decide : (1 : Int32) = (1 : Int32))).2 (XS.iloadN X0.here hx rfl (hb hby d1_32) rfl (XS.ifNo X0.here hx rfl (hb hby d1_33) rfl ((if0 _ _).trans (feq (by decide : ¬ ((1 : Int32) = (0 : Int32)))).1) kz))) ?_
  show Goes p e below (s₁.setTop (mkF m 36 #[.val (.ref (w 6)), .val (.int (1 : Int32)), .val (.int (1 : Int32))] [])) _
  refine Goes.by (fun _ kz => XS.aloadN X0.here hx rfl (hb hby d1_36) rfl rfl kz) ?_
  obtain ⟨T92, X92, e92, st92⟩ := getF X0 hx hZ hown (host := "") (Or.inl (hw _ (List.mem_of_getElem? (i := 33) rfl))) Via.refl e0 P.2.2.2.2.2.2.2.2.2.2.2.2.2.2.2.2.2.2.2.2.2.2.2.2.2.2.2.2.2.2.2.2.2.2.2.2.2.2.2.2.2.2.2.1 (g := (mkF m 37 #[.val (.ref (w 6)), .val (.int (1 : Int32)), .val (.int (1 : Int32))] [(.ref (w 6))])) rfl rfl (hb hby d1_37)
  refine Goes.by st92 ?_
  refine Goes.by (fun _ kz => XS.goto X92.here hx rfl (pc0 := 40) (pc' := 47) rfl (hb hby d1_40) (by decide) (by decide) kz) ?_
  show Goes p e below (T92.setTop (mkF m 47 #[.val (.ref (w 6)), .val (.int (1 : Int32)), .val (.int (1 : Int32))] [(.int (1 : Int32))])) _
  obtain ⟨fs, hr, hrun, hended, hW, hsame⟩ := X92.leave (v := some (.int (1 : Int32))) (fun h => by rw [Bd.returns] at h; cases h)
  exact ⟨_, _, retN X92 hx (t := .boolean) Bd.returns (by simp) (hb hby d1_47) hr, hrun, hended, _, _, rfl, ⟨rfl, N0, e92⟩, ⟨_, rfl⟩, hW, hsame.mono (by decide) (by decide)⟩
set_option maxRecDepth 65536 in
set_option maxHeartbeats 40000000 in
theorem r1_31 (l : Launch) (Z : State) (a0 : Array Value) (hw : ∀ d ∈ tables_1, d.before a0 Z = true) (ws : List Jvm.Cond) (h0 : Heap) (n0 : Nat) (Z0 : n0 ≤ h0.size) (w : Nat → Addr) (P : Pins Z h0 w) :
    MetFree l (⟨"com/example/entail/entail/model/Scope", "reaches", "(IZ)Z"⟩ : MethodName) (head1 (Jvm.Cond.code (⟨"com/example/entail/entail/model/Scope", "reaches", "(IZ)Z"⟩ : MethodName) prog_11_method_6_code 3 (some .boolean) :: ws) ({ frames := 0, cells := 0, slots := 0, locals := 0 } : Room)) (fun a U => a = #[(.ref (w 7)), (.int (1 : Int32)), (.int (1 : Int32))] ∧ Z.Warmed39 U.vm ∧ U.heap = h0) (fun _ _ _ _ _ => True) (fun _ U o U' => ∃ v L, o = .returned v ∧ QP (some (.int (1 : Int32))) h0 n0 v U'.heap L ∧ FrameEnd U o U' L ({ frames := 0, cells := 0, slots := 0, locals := 0 } : Room).cells ({ frames := 0, cells := 0, slots := 0, locals := 0 } : Room).slots) := by
  refine MetFree.of_bodySF (plainFor_of_name pn0) hisR ?_
  intro p e s m args below meth c s₁ Bd hml0 hP hK
  obtain ⟨rfl, hZ, hh⟩ := hP
  have hx := Bd.exec
  have hby := Bd.bytes
  have hml : c.maxLocals = 3 := hml0
  have hown : s.vm.findClass "com/example/entail/entail/model/Scope" = some m.cls := findClass_of_methodNamed Bd.named
  have hnm := (name_of_methodNamed Bd.named Bd.method).1
  have X0 : Stand p l e ({ frames := 0, cells := 0, slots := 0, locals := 0 } : Room) s m #[(.ref (w 7)), (.int (1 : Int32)), (.int (1 : Int32))] below meth c s₁ [] 0 0 := Stand.of_body Bd
  have e0 : s₁.heap = h0 := by rw [← hh, Bd.state]; rfl
  have N0 := Fr.nil n0
  refine Goes.out (Goes.by (fun tz kz => castTop (ef1_RII m ((w 7)) ((1 : Int32)) ((1 : Int32))) kz) ?_)
  show Goes p e below (s₁.setTop (mkF m 0 #[.val (.ref (w 7)), .val (.int (1 : Int32)), .val (.int (1 : Int32))] [])) _
  refine Goes.by (fun _ kz => XS.iloadN X0.here hx rfl (hb hby d1_0) rfl (XS.ifYes X0.here hx rfl (pc0 := 1) (pc' := 18) rfl (hb hby d1_1) rfl ((if0 _ _).trans (flt (by decide : ¬ ((1 : Int32) < (0 : Int32)))).2.1) (by decide) (by decide) (XS.iloadN X0.here hx rfl (hb hby d1_18) rfl kz))) ?_
  show Goes p e below (s₁.setTop (mkF m 19 #[.val (.ref (w 7)), .val (.int (1 : Int32)), .val (.int (1 : Int32))] [(.int (1 : Int32))])) _
  refine Goes.by (fun _ kz => XS.ifYes X0.here hx rfl (pc0 := 19) (pc' := 27) rfl (hb hby d1_19) rfl ((if0 _ _).trans (feq (by decide : ¬ ((1 : Int32) = (0 : Int32)))).2) (by decide) (by decide) (XS.iloadN X0.here hx rfl (hb hby d1_27) rfl (XS.iconst X0.here hx rfl (hb hby d1_28) kz))) ?_
  show Goes p e below (s₁.setTop (mkF m 29 #[.val (.ref (w 7)), .val (.int (1 : Int32)), .val (.int (1 : Int32))] [(.int (1 : Int32)), (.int (1 : Int32))])) _
  refine Goes.by (fun _ kz => XS.icmpNo X0.here hx rfl (hb hby d1_29) rfl (teq (by decide : (1 : Int32) = (1 : Int32))).2 (XS.iloadN X0.here hx rfl (hb hby d1_32) rfl (XS.ifNo X0.here hx rfl (hb hby d1_33) rfl ((if0 _ _).trans (feq (by decide : ¬ ((1 : Int32) = (0 : Int32)))).1) kz))) ?_
  show Goes p e below (s₁.setTop (mkF m 36 #[.val (.ref (w 7)), .val (.int (1 : Int32)), .val (.int (1 : Int32))] [])) _
  refine Goes.by (fun _ kz => XS.aloadN X0.here hx rfl (hb hby d1_36) rfl rfl kz) ?_
  obtain ⟨T95, X95, e95, st95⟩ := getF X0 hx hZ hown (host := "") (Or.inl (hw _ (List.mem_of_getElem? (i := 33) rfl))) Via.refl e0 P.2.2.2.2.2.2.2.2.2.2.2.2.2.2.2.2.2.2.2.2.2.2.2.2.2.2.2.2.2.2.2.2.2.2.2.2.2.2.2.2.2.2.2.2.2.2.2.2.2.2.2.2.2.2.2.1 (g := (mkF m 37 #[.val (.ref (w 7)), .val (.int (1 : Int32)), .val (.int (1 : Int32))] [(.ref (w 7))])) rfl rfl (hb hby d1_37)
  refine Goes.by st95 ?_
  refine Goes.by (fun _ kz => XS.goto X95.here hx rfl (pc0 := 40) (pc' := 47) rfl (hb hby d1_40) (by decide) (by decide) kz) ?_
  show Goes p e below (T95.setTop (mkF m 47 #[.val (.ref (w 7)), .val (.int (1 : Int32)), .val (.int (1 : Int32))] [(.int (1 : Int32))])) _
  obtain ⟨fs, hr, hrun, hended, hW, hsame⟩ := X95.leave (v := some (.int (1 : Int32))) (fun h => by rw [Bd.returns] at h; cases h)
  exact ⟨_, _, retN X95 hx (t := .boolean) Bd.returns (by simp) (hb hby d1_47) hr, hrun, hended, _, _, rfl, ⟨rfl, N0, e95⟩, ⟨_, rfl⟩, hW, hsame.mono (by decide) (by decide)⟩
set_option maxRecDepth 65536 in
set_option maxHeartbeats 40000000 in
theorem r1_32 (l : Launch) (Z : State) (a0 : Array Value) (hw : ∀ d ∈ tables_1, d.before a0 Z = true) (ws : List Jvm.Cond) (h0 : Heap) (n0 : Nat) (Z0 : n0 ≤ h0.size) (w : Nat → Addr) (P : Pins Z h0 w) :
    MetFree l (⟨"com/example/entail/entail/model/Scope", "reaches", "(IZ)Z"⟩ : MethodName) (head1 (Jvm.Cond.code (⟨"com/example/entail/entail/model/Scope", "reaches", "(IZ)Z"⟩ : MethodName) prog_11_method_6_code 3 (some .boolean) :: ws) ({ frames := 0, cells := 0, slots := 0, locals := 0 } : Room)) (fun a U => a = #[(.ref (w 8)), (.int (1 : Int32)), (.int (1 : Int32))] ∧ Z.Warmed39 U.vm ∧ U.heap = h0) (fun _ _ _ _ _ => True) (fun _ U o U' => ∃ v L, o = .returned v ∧ QP (some (.int (0 : Int32))) h0 n0 v U'.heap L ∧ FrameEnd U o U' L ({ frames := 0, cells := 0, slots := 0, locals := 0 } : Room).cells ({ frames := 0, cells := 0, slots := 0, locals := 0 } : Room).slots) := by
  refine MetFree.of_bodySF (plainFor_of_name pn0) hisR ?_
  intro p e s m args below meth c s₁ Bd hml0 hP hK
  obtain ⟨rfl, hZ, hh⟩ := hP
  have hx := Bd.exec
  have hby := Bd.bytes
  have hml : c.maxLocals = 3 := hml0
  have hown : s.vm.findClass "com/example/entail/entail/model/Scope" = some m.cls := findClass_of_methodNamed Bd.named
  have hnm := (name_of_methodNamed Bd.named Bd.method).1
  have X0 : Stand p l e ({ frames := 0, cells := 0, slots := 0, locals := 0 } : Room) s m #[(.ref (w 8)), (.int (1 : Int32)), (.int (1 : Int32))] below meth c s₁ [] 0 0 := Stand.of_body Bd
  have e0 : s₁.heap = h0 := by rw [← hh, Bd.state]; rfl
  have N0 := Fr.nil n0
  refine Goes.out (Goes.by (fun tz kz => castTop (ef1_RII m ((w 8)) ((1 : Int32)) ((1 : Int32))) kz) ?_)
  show Goes p e below (s₁.setTop (mkF m 0 #[.val (.ref (w 8)), .val (.int (1 : Int32)), .val (.int (1 : Int32))] [])) _
  refine Goes.by (fun _ kz => XS.iloadN X0.here hx rfl (hb hby d1_0) rfl (XS.ifYes X0.here hx rfl (pc0 := 1) (pc' := 18) rfl (hb hby d1_1) rfl ((if0 _ _).trans (flt (by decide : ¬ ((1 : Int32) < (0 : Int32)))).2.1) (by decide) (by decide) (XS.iloadN X0.here hx rfl (hb hby d1_18) rfl kz))) ?_
  show Goes p e below (s₁.setTop (mkF m 19 #[.val (.ref (w 8)), .val (.int (1 : Int32)), .val (.int (1 : Int32))] [(.int (1 : Int32))])) _
  refine Goes.by (fun _ kz => XS.ifYes X0.here hx rfl (pc0 := 19) (pc' := 27) rfl (hb hby d1_19) rfl ((if0 _ _).trans (feq (by decide : ¬ ((1 : Int32) = (0 : Int32)))).2) (by decide) (by decide) (XS.iloadN X0.here hx rfl (hb hby d1_27) rfl (XS.iconst X0.here hx rfl (hb hby d1_28) kz))) ?_
  show Goes p e below (s₁.setTop (mkF m 29 #[.val (.ref (w 8)), .val (.int (1 : Int32)), .val (.int (1 : Int32))] [(.int (1 : Int32)), (.int (1 : Int32))])) _
  refine Goes.by (fun _ kz => XS.icmpNo X0.here hx rfl (hb hby d1_29) rfl (teq (by decide : (1 : Int32) = (1 : Int32))).2 (XS.iloadN X0.here hx rfl (hb hby d1_32) rfl (XS.ifNo X0.here hx rfl (hb hby d1_33) rfl ((if0 _ _).trans (feq (by decide : ¬ ((1 : Int32) = (0 : Int32)))).1) kz))) ?_
  show Goes p e below (s₁.setTop (mkF m 36 #[.val (.ref (w 8)), .val (.int (1 : Int32)), .val (.int (1 : Int32))] [])) _
  refine Goes.by (fun _ kz => XS.aloadN X0.here hx rfl (hb hby d1_36) rfl rfl kz) ?_
  obtain ⟨T98, X98, e98, st98⟩ := getF X0 hx hZ hown (host := "") (Or.inl (hw _ (List.mem_of_getElem? (i := 33) rfl))) Via.refl e0 P.2.2.2.2.2.2.2.2.2.2.2.2.2.2.2.2.2.2.2.2.2.2.2.2.2.2.2.2.2.2.2.2.2.2.2.2.2.2.2.2.2.2.2.2.2.2.2.2.2.2.2.2.2.2.2.2.2.2.2.2.2.2 (g := (mkF m 37 #[.val (.ref (w 8)), .val (.int (1 : Int32)), .val (.int (1 : Int32))] [(.ref (w 8))])) rfl rfl (hb hby d1_37)
  refine Goes.by st98 ?_
  refine Goes.by (fun _ kz => XS.goto X98.here hx rfl (pc0 := 40) (pc' := 47) rfl (hb hby d1_40) (by decide) (by decide) kz) ?_
  show Goes p e below (T98.setTop (mkF m 47 #[.val (.ref (w 8)), .val (.int (1 : Int32)), .val (.int (1 : Int32))] [(.int (0 : Int32))])) _
  obtain ⟨fs, hr, hrun, hended, hW, hsame⟩ := X98.leave (v := some (.int (0 : Int32))) (fun h => by rw [Bd.returns] at h; cases h)
  exact ⟨_, _, retN X98 hx (t := .boolean) Bd.returns (by simp) (hb hby d1_47) hr, hrun, hended, _, _, rfl, ⟨rfl, N0, e98⟩, ⟨_, rfl⟩, hW, hsame.mono (by decide) (by decide)⟩
set_option maxRecDepth 65536 in
set_option maxHeartbeats 40000000 in
theorem r1_33 (l : Launch) (Z : State) (a0 : Array Value) (hw : ∀ d ∈ tables_1, d.before a0 Z = true) (ws : List Jvm.Cond) (h0 : Heap) (n0 : Nat) (Z0 : n0 ≤ h0.size) (w : Nat → Addr) (P : Pins Z h0 w) :
    MetFree l (⟨"com/example/entail/entail/model/Scope", "reaches", "(IZ)Z"⟩ : MethodName) (head1 (Jvm.Cond.code (⟨"com/example/entail/entail/model/Scope", "reaches", "(IZ)Z"⟩ : MethodName) prog_11_method_6_code 3 (some .boolean) :: ws) ({ frames := 0, cells := 0, slots := 0, locals := 0 } : Room)) (fun a U => a = #[(.ref (w 4)), (.int (1 : Int32)), (.int (1 : Int32))] ∧ Z.Warmed39 U.vm ∧ U.heap = h0) (fun _ _ _ _ _ => True) (fun _ U o U' => ∃ v L, o = .returned v ∧ QP (some (.int (1 : Int32))) h0 n0 v U'.heap L ∧ FrameEnd U o U' L ({ frames := 0, cells := 0, slots := 0, locals := 0 } : Room).cells ({ frames := 0, cells := 0, slots := 0, locals := 0 } : Room).slots) := by
  refine MetFree.of_bodySF (plainFor_of_name pn0) hisR ?_
  intro p e s m args below meth c s₁ Bd hml0 hP hK
  obtain ⟨rfl, hZ, hh⟩ := hP
  have hx := Bd.exec
  have hby := Bd.bytes
  have hml : c.maxLocals = 3 := hml0
  have hown : s.vm.findClass "com/example/entail/entail/model/Scope" = some m.cls := findClass_of_methodNamed Bd.named
  have hnm := (name_of_methodNamed Bd.named Bd.method).1
  have X0 : Stand p l e ({ frames := 0, cells := 0, slots := 0, locals := 0 } : Room) s m #[(.ref (w 4)), (.int (1 : Int32)), (.int (1 : Int32))] below meth c s₁ [] 0 0 := Stand.of_body Bd
  have e0 : s₁.heap = h0 := by rw [← hh, Bd.state]; rfl
  have N0 := Fr.nil n0
  refine Goes.out (Goes.by (fun tz kz => castTop (ef1_RII m ((w 4)) ((1 : Int32)) ((1 : Int32))) kz) ?_)
  show Goes p e below (s₁.setTop (mkF m 0 #[.val (.ref (w 4)), .val (.int (1 : Int32)), .val (.int (1 : Int32))] [])) _
  refine Goes.by (fun _ kz => XS.iloadN X0.here hx rfl (hb hby d1_0) rfl (XS.ifYes X0.here hx rfl (pc0 := 1) (pc' := 18) rfl (hb hby d1_1) rfl ((if0 _ _).trans (flt (by decide : ¬ ((1 : Int32) < (0 : Int32)))).2.1) (by decide) (by decide) (XS.iloadN X0.here hx rfl (hb hby d1_18) rfl kz))) ?_
  show Goes p e below (s₁.setTop (mkF m 19 #[.val (.ref (w 4)), .val (.int (1 : Int32)), .val (.int (1 : Int32))] [(.int (1 : Int32))])) _
  refine Goes.by (fun _ kz => XS.ifYes X0.here hx rfl (pc0 := 19) (pc' := 27) rfl (hb hby d1_19) rfl ((if0 _ _).trans (feq (by decide : ¬ ((1 : Int32) = (0 : Int32)))).2) (by decide) (by decide) (XS.iloadN X0.here hx rfl (hb hby d1_27) rfl (XS.iconst X0.here hx rfl (hb hby d1_28) kz))) ?_
  show Goes p e below (s₁.setTop (mkF m 29 #[.val (.ref (w 4)), .val (.int (1 : Int32)), .val (.int (1 : Int32))] [(.int (1 : Int32)), (.int (1 : Int32))])) _
  refine Goes.by (fun _ kz => XS.icmpNo X0.here hx rfl (hb hby d1_29) rfl (teq (by decide : (1 : Int32) = (1 : Int32))).2 (XS.iloadN X0.here hx rfl (hb hby d1_32) rfl (XS.ifNo X0.here hx rfl (hb hby d1_33) rfl ((if0 _ _).trans (feq (by decide : ¬ ((1 : Int32) = (0 : Int32)))).1) kz))) ?_
  show Goes p e below (s₁.setTop (mkF m 36 #[.val (.ref (w 4)), .val (.int (1 : Int32)), .val (.int (1 : Int32))] [])) _
  refine Goes.by (fun _ kz => XS.aloadN X0.here hx rfl (hb hby d1_36) rfl rfl kz) ?_
  obtain ⟨T101, X101, e101, st101⟩ := getF X0 hx hZ hown (host := "") (Or.inl (hw _ (List.mem_of_getElem? (i := 33) rfl))) Via.refl e0 P.2.2.2.2.2.2.2.2.2.2.2.2.2.2.2.2.2.2.2.2.2.2.2.2.2.2.2.2.2.2.2.2.2.2.2.2.2.2.2.2.2.2.2.2.2.2.2.2.2.2.2.2.2.2.1 (g := (mkF m 37 #[.val (.ref (w 4)), .val (.int (1 : Int32)), .val (.int (1 : Int32))] [(.ref (w 4))])) rfl rfl (hb hby d1_37)
  refine Goes.by st101 ?_
  refine Goes.by (fun _ kz => XS.goto X101.here hx rfl (pc0 := 40) (pc' := 47) rfl (hb hby d1_40) (by decide) (by decide) kz) ?_
  show Goes p e below (T101.setTop (mkF m 47 #[.val (.ref (w 4)), .val (.int (1 : Int32)), .val (.int (1 : Int32))] [(.int (1 : Int32))])) _
  obtain ⟨fs, hr, hrun, hended, hW, hsame⟩ := X101.leave (v := some (.int (1 : Int32))) (fun h => by rw [Bd.returns] at h; cases h)
  exact ⟨_, _, retN X101 hx (t := .boolean) Bd.returns (by simp) (hb hby d1_47) hr, hrun, hended, _, _, rfl, ⟨rfl, N0, e101⟩, ⟨_, rfl⟩, hW, hsame.mono (by decide) (by decide)⟩
set_option maxRecDepth 65536 in
set_option maxHeartbeats 40000000 in
theorem r1_34 (l : Launch) (Z : State) (a0 : Array Value) (hw : ∀ d ∈ tables_1, d.before a0 Z = true) (ws : List Jvm.Cond) (h0 : Heap) (n0 : Nat) (Z0 : n0 ≤ h0.size) (w : Nat → Addr) (P : Pins Z h0 w) :
    MetFree l (⟨"com/example/entail/entail/model/Scope", "reaches", "(IZ)Z"⟩ : MethodName) (head1 (Jvm.Cond.code (⟨"com/example/entail/entail/model/Scope", "reaches", "(IZ)Z"⟩ : MethodName) prog_11_method_6_code 3 (some .boolean) :: ws) ({ frames := 0, cells := 0, slots := 0, locals := 0 } : Room)) (fun a U => a = #[(.ref (w 5)), (.int (1 : Int32)), (.int (1 : Int32))] ∧ Z.Warmed39 U.vm ∧ U.heap = h0) (fun _ _ _ _ _ => True) (fun _ U o U' => ∃ v L, o = .returned v ∧ QP (some (.int (0 : Int32))) h0 n0 v U'.heap L ∧ FrameEnd U o U' L ({ frames := 0, cells := 0, slots := 0, locals := 0 } : Room).cells ({ frames := 0, cells := 0, slots := 0, locals := 0 } : Room).slots) := by
  refine MetFree.of_bodySF (plainFor_of_name pn0) hisR ?_
  intro p e s m args below meth c s₁ Bd hml0 hP hK
  obtain ⟨rfl, hZ, hh⟩ := hP
  have hx := Bd.exec
  have hby := Bd.bytes
  have hml : c.maxLocals = 3 := hml0
  have hown : s.vm.findClass "com/example/entail/entail/model/Scope" = some m.cls := findClass_of_methodNamed Bd.named
  have hnm := (name_of_methodNamed Bd.named Bd.method).1
  have X0 : Stand p l e ({ frames := 0, cells := 0, slots := 0, locals := 0 } : Room) s m #[(.ref (w 5)), (.int (1 : Int32)), (.int (1 : Int32))] below meth c s₁ [] 0 0 := Stand.of_body Bd
  have e0 : s₁.heap = h0 := by rw [← hh, Bd.state]; rfl
  have N0 := Fr.nil n0
  refine Goes.out (Goes.by (fun tz kz => castTop (ef1_RII m ((w 5)) ((1 : Int32)) ((1 : Int32))) kz) ?_)
  show Goes p e below (s₁.setTop (mkF m 0 #[.val (.ref (w 5)), .val (.int (1 : Int32)), .val (.int (1 : Int32))] [])) _
  refine Goes.by (fun _ kz => XS.iloadN X0.here hx rfl (hb hby d1_0) rfl (XS.ifYes X0.here hx rfl (pc0 := 1) (pc' := 18) rfl (hb hby d1_1) rfl ((if0 _ _).trans (flt (by decide : ¬ ((1 : Int32) < (0 : Int32)))).2.1) (by decide) (by decide) (XS.iloadN X0.here hx rfl (hb hby d1_18) rfl kz))) ?_
  show Goes p e below (s₁.setTop (mkF m 19 #[.val (.ref (w 5)), .val (.int (1 : Int32)), .val (.int (1 : Int32))] [(.int (1 : Int32))])) _
  refine Goes.by (fun _ kz => XS.ifYes X0.here hx rfl (pc0 := 19) (pc' := 27) rfl (hb hby d1_19) rfl ((if0 _ _).trans (feq (by decide : ¬ ((1 : Int32) = (0 : Int32)))).2) (by decide) (by decide) (XS.iloadN X0.here hx rfl (hb hby d1_27) rfl (XS.iconst X0.here hx rfl (hb hby d1_28) kz))) ?_
  show Goes p e below (s₁.setTop (mkF m 29 #[.val (.ref (w 5)), .val (.int (1 : Int32)), .val (.int (1 : Int32))] [(.int (1 : Int32)), (.int (1 : Int32))])) _
  refine Goes.by (fun _ kz => XS.icmpNo X0.here hx rfl (hb hby d1_29) rfl (teq (by decide : (1 : Int32) = (1 : Int32))).2 (XS.iloadN X0.here hx rfl (hb hby d1_32) rfl (XS.ifNo X0.here hx rfl (hb hby d1_33) rfl ((if0 _ _).trans (feq (by decide : ¬ ((1 : Int32) = (0 : Int32)))).1) kz))) ?_
  show Goes p e below (s₁.setTop (mkF m 36 #[.val (.ref (w 5)), .val (.int (1 : Int32)), .val (.int (1 : Int32))] [])) _
  refine Goes.by (fun _ kz => XS.aloadN X0.here hx rfl (hb hby d1_36) rfl rfl kz) ?_
  obtain ⟨T104, X104, e104, st104⟩ := getF X0 hx hZ hown (host := "") (Or.inl (hw _ (List.mem_of_getElem? (i := 33) rfl))) Via.refl e0 P.2.2.2.2.2.2.2.2.2.2.2.2.2.2.2.2.2.2.2.2.2.2.2.2.2.2.2.2.2.2.2.2.2.2.2.2.2.2.2.2.2.2.2.2.2.2.2.2.2.2.2.2.2.2.2.2.2.2.2.2.1 (g := (mkF m 37 #[.val (.ref (w 5)), .val (.int (1 : Int32)), .val (.int (1 : Int32))] [(.ref (w 5))])) rfl rfl (hb hby d1_37)
  refine Goes.by st104 ?_
  refine Goes.by (fun _ kz => XS.goto X104.here hx rfl (pc0 := 40) (pc' := 47) rfl (hb hby d1_40) (by decide) (by decide) kz) ?_
  show Goes p e below (T104.setTop (mkF m 47 #[.val (.ref (w 5)), .val (.int (1 : Int32)), .val (.int (1 : Int32))] [(.int (0 : Int32))])) _
  obtain ⟨fs, hr, hrun, hended, hW, hsame⟩ := X104.leave (v := some (.int (0 : Int32))) (fun h => by rw [Bd.returns] at h; cases h)
  exact ⟨_, _, retN X104 hx (t := .boolean) Bd.returns (by simp) (hb hby d1_47) hr, hrun, hended, _, _, rfl, ⟨rfl, N0, e104⟩, ⟨_, rfl⟩, hW, hsame.mono (by decide) (by decide)⟩
set_option maxRecDepth 65536 in
set_option maxHeartbeats 40000000 in
theorem r1_35 (l : Launch) (Z : State) (a0 : Array Value) (hw : ∀ d ∈ tables_1, d.before a0 Z = true) (ws : List Jvm.Cond) (h0 : Heap) (n0 : Nat) (Z0 : n0 ≤ h0.size) (w : Nat → Addr) (P : Pins Z h0 w) :
    MetFree l (⟨"com/example/entail/entail/model/Scope", "reaches", "(IZ)Z"⟩ : MethodName) (head1 (Jvm.Cond.code (⟨"com/example/entail/entail/model/Scope", "reaches", "(IZ)Z"⟩ : MethodName) prog_11_method_6_code 3 (some .boolean) :: ws) ({ frames := 0, cells := 0, slots := 0, locals := 0 } : Room)) (fun a U => a = #[(.ref (w 3)), (.int (1 : Int32)), (.int (1 : Int32))] ∧ Z.Warmed39 U.vm ∧ U.heap = h0) (fun _ _ _ _ _ => True) (fun _ U o U' => ∃ v L, o = .returned v ∧ QP (some (.int (0 : Int32))) h0 n0 v U'.heap L ∧ FrameEnd U o U' L ({ frames := 0, cells := 0, slots := 0, locals := 0 } : Room).cells ({ frames := 0, cells := 0, slots := 0, locals := 0 } : Room).slots) := by
  refine MetFree.of_bodySF (plainFor_of_name pn0) hisR ?_
  intro p e s m args below meth c s₁ Bd hml0 hP hK
  obtain ⟨rfl, hZ, hh⟩ := hP
  have hx := Bd.exec
  have hby := Bd.bytes
  have hml : c.maxLocals = 3 := hml0
  have hown : s.vm.findClass "com/example/entail/entail/model/Scope" = some m.cls := findClass_of_methodNamed Bd.named
  have hnm := (name_of_methodNamed Bd.named Bd.method).1
  have X0 : Stand p l e ({ frames := 0, cells := 0, slots := 0, locals := 0 } : Room) s m #[(.ref (w 3)), (.int (1 : Int32)), (.int (1 : Int32))] below meth c s₁ [] 0 0 := Stand.of_body Bd
  have e0 : s₁.heap = h0 := by rw [← hh, Bd.state]; rfl
  have N0 := Fr.nil n0
  refine Goes.out (Goes.by (fun tz kz => castTop (ef1_RII m ((w 3)) ((1 : Int32)) ((1 : Int32))) kz) ?_)
  show Goes p e below (s₁.setTop (mkF m 0 #[.val (.ref (w 3)), .val (.int (1 : Int32)), .val (.int (1 : Int32))] [])) _
  refine Goes.by (fun _ kz => XS.iloadN X0.here hx rfl (hb hby d1_0) rfl (XS.ifYes X0.here hx rfl (pc0 := 1) (pc' := 18) rfl (hb hby d1_1) rfl ((if0 _ _).trans (flt (by decide : ¬ ((1 : Int32) < (0 : Int32)))).2.1) (by decide) (by decide) (XS.iloadN X0.here hx rfl (hb hby d1_18) rfl kz))) ?_
  show Goes p e below (s₁.setTop (mkF m 19 #[.val (.ref (w 3)), .val (.int (1 : Int32)), .val (.int (1 : Int32))] [(.int (1 : Int32))])) _
  refine Goes.by (fun _ kz => XS.ifYes X0.here hx rfl (pc0 := 19) (pc' := 27) rfl (hb hby d1_19) rfl ((if0 _ _).trans (feq (by decide : ¬ ((1 : Int32) = (0 : Int32)))).2) (by decide) (by decide) (XS.iloadN X0.here hx rfl (hb hby d1_27) rfl (XS.iconst X0.here hx rfl (hb hby d1_28) kz))) ?_
  show Goes p e below (s₁.setTop (mkF m 29 #[.val (.ref (w 3)), .val (.int (1 : Int32)), .val (.int (1 : Int32))] [(.int (1 : Int32)), (.int (1 : Int32))])) _
  refine Goes.by (fun _ kz => XS.icmpNo X0.here hx rfl (hb hby d1_29) rfl (teq (by decide : (1 : Int32) = (1 : Int32))).2 (XS.iloadN X0.here hx rfl (hb hby d1_32) rfl (XS.ifNo X0.here hx rfl (hb hby d1_33) rfl ((if0 _ _).trans (feq (by decide : ¬ ((1 : Int32) = (0 : Int32)))).1) kz))) ?_
  show Goes p e below (s₁.setTop (mkF m 36 #[.val (.ref (w 3)), .val (.int (1 : Int32)), .val (.int (1 : Int32))] [])) _
  refine Goes.by (fun _ kz => XS.aloadN X0.here hx rfl (hb hby d1_36) rfl rfl kz) ?_
  obtain ⟨T107, X107, e107, st107⟩ := getF X0 hx hZ hown (host := "") (Or.inl (hw _ (List.mem_of_getElem? (i := 33) rfl))) Via.refl e0 P.2.2.2.2.2.2.2.2.2.2.2.2.2.2.2.2.2.2.2.2.2.2.2.2.2.2.2.2.2.2.2.2.2.2.2.2.2.2.2.2.2.2.2.2.2.1 (g := (mkF m 37 #[.val (.ref (w 3)), .val (.int (1 : Int32)), .val (.int (1 : Int32))] [(.ref (w 3))])) rfl rfl (hb hby d1_37)
  refine Goes.by st107 ?_
  refine Goes.by (fun _ kz => XS.goto X107.here hx rfl (pc0 := 40) (pc' := 47) rfl (hb hby d1_40) (by decide) (by decide) kz) ?_
  show Goes p e below (T107.setTop (mkF m 47 #[.val (.ref (w 3)), .val (.int (1 : Int32)), .val (.int (1 : Int32))] [(.int (0 : Int32))])) _
  obtain ⟨fs, hr, hrun, hended, hW, hsame⟩ := X107.leave (v := some (.int (0 : Int32))) (fun h => by rw [Bd.returns] at h; cases h)
  exact ⟨_, _, retN X107 hx (t := .boolean) Bd.returns (by simp) (hb hby d1_47) hr, hrun, hended, _, _, rfl, ⟨rfl, N0, e107⟩, ⟨_, rfl⟩, hW, hsame.mono (by decide) (by decide)⟩
set_option maxRecDepth 65536 in
set_option maxHeartbeats 40000000 in
theorem r1_36 (l : Launch) (Z : State) (a0 : Array Value) (hw : ∀ d ∈ tables_1, d.before a0 Z = true) (ws : List Jvm.Cond) (h0 : Heap) (n0 : Nat) (Z0 : n0 ≤ h0.size) (n : Int32) (w : Nat → Addr) (hn0 : ¬ (n = (0 : Int32))) (hn1 : ¬ (n = (1 : Int32))) (hn3 : ¬ (n < (0 : Int32))) (P : Pins Z h0 w) :
    MetFree l (⟨"com/example/entail/entail/model/Scope", "reaches", "(IZ)Z"⟩ : MethodName) (head1 (Jvm.Cond.code (⟨"com/example/entail/entail/model/Scope", "reaches", "(IZ)Z"⟩ : MethodName) prog_11_method_6_code 3 (some .boolean) :: ws) ({ frames := 0, cells := 0, slots := 0, locals := 0 } : Room)) (fun a U => a = #[(.ref (w 0)), (.int n), (.int (0 : Int32))] ∧ Z.Warmed39 U.vm ∧ U.heap = h0) (fun _ _ _ _ _ => True) (fun _ U o U' => ∃ v L, o = .returned v ∧ QP (some (.int (1 : Int32))) h0 n0 v U'.heap L ∧ FrameEnd U o U' L ({ frames := 0, cells := 0, slots := 0, locals := 0 } : Room).cells ({ frames := 0, cells := 0, slots := 0, locals := 0 } : Room).slots) := by
  refine MetFree.of_bodySF (plainFor_of_name pn0) hisR ?_
  intro p e s m args below meth c s₁ Bd hml0 hP hK
  obtain ⟨rfl, hZ, hh⟩ := hP
  have hx := Bd.exec
  have hby := Bd.bytes
  have hml : c.maxLocals = 3 := hml0
  have hown : s.vm.findClass "com/example/entail/entail/model/Scope" = some m.cls := findClass_of_methodNamed Bd.named
  have hnm := (name_of_methodNamed Bd.named Bd.method).1
  have X0 : Stand p l e ({ frames := 0, cells := 0, slots := 0, locals := 0 } : Room) s m #[(.ref (w 0)), (.int n), (.int (0 : Int32))] below meth c s₁ [] 0 0 := Stand.of_body Bd
  have e0 : s₁.heap = h0 := by rw [← hh, Bd.state]; rfl
  have N0 := Fr.nil n0
  refine Goes.out (Goes.by (fun tz kz => castTop (ef1_RII m ((w 0)) n ((0 : Int32))) kz) ?_)
  show Goes p e below (s₁.setTop (mkF m 0 #[.val (.ref (w 0)), .val (.int n), .val (.int (0 : Int32))] [])) _
  refine Goes.by (fun _ kz => XS.iloadN X0.here hx rfl (hb hby d1_0) rfl (XS.ifYes X0.here hx rfl (pc0 := 1) (pc' := 18) rfl (hb hby d1_1) rfl ((if0 _ _).trans (flt hn3).2.1) (by decide) (by decide) (XS.iloadN X0.here hx rfl (hb hby d1_18) rfl kz))) ?_
  show Goes p e below (s₁.setTop (mkF m 19 #[.val (.ref (w 0)), .val (.int n), .val (.int (0 : Int32))] [(.int n)])) _
  refine Goes.by (fun _ kz => XS.ifYes X0.here hx rfl (pc0 := 19) (pc' := 27) rfl (hb hby d1_19) rfl ((if0 _ _).trans (feq hn0).2) (by decide) (by decide) (XS.iloadN X0.here hx rfl (hb hby d1_27) rfl (XS.iconst X0.here hx rfl (hb hby d1_28) kz))) ?_
  show Goes p e below (s₁.setTop (mkF m 29 #[.val (.ref (w 0)), .val (.int n), .val (.int (0 : Int32))] [(.int (1 : Int32)), (.int n)])) _
  refine Goes.by (fun _ kz => XS.icmpYes X0.here hx rfl (pc0 := 29) (pc' := 48) rfl (hb hby d1_29) rfl (feq hn1).2 (by decide) (by decide) (XS.iloadN X0.here hx rfl (hb hby d1_48) rfl (XS.ifYes X0.here hx rfl (pc0 := 49) (pc' := 59) rfl (hb hby d1_49) rfl ((if0 _ _).trans (teq (by decide : (0 : Int32) = (0 : Int32))).1) (by decide) (by decide) kz))) ?_
  show Goes p e below (s₁.setTop (mkF m 59 #[.val (.ref (w 0)), .val (.int n), .val (.int (0 : Int32))] [])) _
  refine Goes.by (fun _ kz => XS.aloadN X0.here hx rfl (hb hby d1_59) rfl rfl kz) ?_
  obtain ⟨T110, X110, e110, st110⟩ := getF X0 hx hZ hown (host := "") (Or.inl (hw _ (List.mem_of_getElem? (i := 9) rfl))) Via.refl e0 P.2.2.2.2.2.2.2.2.2.2.2.2.2.2.2.2.2.2.1 (g := (mkF m 60 #[.val (.ref (w 0)), .val (.int n), .val (.int (0 : Int32))] [(.ref (w 0))])) rfl rfl (hb hby d1_60)
  refine Goes.by st110 ?_
  show Goes p e below (T110.setTop (mkF m 63 #[.val (.ref (w 0)), .val (.int n), .val (.int (0 : Int32))] [(.int (1 : Int32))])) _
  obtain ⟨fs, hr, hrun, hended, hW, hsame⟩ := X110.leave (v := some (.int (1 : Int32))) (fun h => by rw [Bd.returns] at h; cases h)
  exact ⟨_, _, retN X110 hx (t := .boolean) Bd.returns (by simp) (hb hby d1_63) hr, hrun, hended, _, _, rfl, ⟨rfl, N0, e110⟩, ⟨_, rfl⟩, hW, hsame.mono (by decide) (by decide)⟩
set_option maxRecDepth 65536 in
set_option maxHeartbeats 40000000 in
theorem r1_37 (l : Launch) (Z : State) (a0 : Array Value) (hw : ∀ d ∈ tables_1, d.before a0 Z = true) (ws : List Jvm.Cond) (h0 : Heap) (n0 : Nat) (Z0 : n0 ≤ h0.size) (n : Int32) (w : Nat → Addr) (hn0 : ¬ (n = (0 : Int32))) (hn1 : ¬ (n = (1 : Int32))) (hn3 : ¬ (n < (0 : Int32))) (P : Pins Z h0 w) :
    MetFree l (⟨"com/example/entail/entail/model/Scope", "reaches", "(IZ)Z"⟩ : MethodName) (head1 (Jvm.Cond.code (⟨"com/example/entail/entail/model/Scope", "reaches", "(IZ)Z"⟩ : MethodName) prog_11_method_6_code 3 (some .boolean) :: ws) ({ frames := 0, cells := 0, slots := 0, locals := 0 } : Room)) (fun a U => a = #[(.ref (w 1)), (.int n), (.int (0 : Int32))] ∧ Z.Warmed39 U.vm ∧ U.heap = h0) (fun _ _ _ _ _ => True) (fun _ U o U' => ∃ v L, o = .returned v ∧ QP (some (.int (0 : Int32))) h0 n0 v U'.heap L ∧ FrameEnd U o U' L ({ frames := 0, cells := 0, slots := 0, locals := 0 } : Room).cells ({ frames := 0, cells := 0, slots := 0, locals := 0 } : Room).slots) := by
  refine MetFree.of_bodySF (plainFor_of_name pn0) hisR ?_
  intro p e s m args below meth c s₁ Bd hml0 hP hK
  obtain ⟨rfl, hZ, hh⟩ := hP
  have hx := Bd.exec
  have hby := Bd.bytes
  have hml : c.maxLocals = 3 := hml0
  have hown : s.vm.findClass "com/example/entail/entail/model/Scope" = some m.cls := findClass_of_methodNamed Bd.named
  have hnm := (name_of_methodNamed Bd.named Bd.method).1
  have X0 : Stand p l e ({ frames := 0, cells := 0, slots := 0, locals := 0 } : Room) s m #[(.ref (w 1)), (.int n), (.int (0 : Int32))] below meth c s₁ [] 0 0 := Stand.of_body Bd
  have e0 : s₁.heap = h0 := by rw [← hh, Bd.state]; rfl
  have N0 := Fr.nil n0
  refine Goes.out (Goes.by (fun tz kz => castTop (ef1_RII m ((w 1)) n ((0 : Int32))) kz) ?_)
  show Goes p e below (s₁.setTop (mkF m 0 #[.val (.ref (w 1)), .val (.int n), .val (.int (0 : Int32))] [])) _
  refine Goes.by (fun _ kz => XS.iloadN X0.here hx rfl (hb hby d1_0) rfl (XS.ifYes X0.here hx rfl (pc0 := 1) (pc' := 18) rfl (hb hby d1_1) rfl ((if0 _ _).trans (flt hn3).2.1) (by decide) (by decide) (XS.iloadN X0.here hx rfl (hb hby d1_18) rfl kz))) ?_
  show Goes p e below (s₁.setTop (mkF m 19 #[.val (.ref (w 1)), .val (.int n), .val (.int (0 : Int32))] [(.int n)])) _
  refine Goes.by (fun _ kz => XS.ifYes X0.here hx rfl (pc0 := 19) (pc' := 27) rfl (hb hby d1_19) rfl ((if0 _ _).trans (feq hn0).2) (by decide) (by decide) (XS.iloadN X0.here hx rfl (hb hby d1_27) rfl (XS.iconst X0.here hx rfl (hb hby d1_28) kz))) ?_
  show Goes p e below (s₁.setTop (mkF m 29 #[.val (.ref (w 1)), .val (.int n), .val (.int (0 : Int32))] [(.int (1 : Int32)), (.int n)])) _
  refine Goes.by (fun _ kz => XS.icmpYes X0.here hx rfl (pc0 := 29) (pc' := 48) rfl (hb hby d1_29) rfl (feq hn1).2 (by decide) (by decide) (XS.iloadN X0.here hx rfl (hb hby d1_48) rfl (XS.ifYes X0.here hx rfl (pc0 := 49) (pc' := 59) rfl (hb hby d1_49) rfl ((if0 _ _).trans (teq (by decide : (0 : Int32) = (0 : Int32))).1) (by decide) (by decide) kz))) ?_
  show Goes p e below (s₁.setTop (mkF m 59 #[.val (.ref (w 1)), .val (.int n), .val (.int (0 : Int32))] [])) _
  refine Goes.by (fun _ kz => XS.aloadN X0.here hx rfl (hb hby d1_59) rfl rfl kz) ?_
  obtain ⟨T113, X113, e113, st113⟩ := getF X0 hx hZ hown (host := "") (Or.inl (hw _ (List.mem_of_getElem? (i := 9) rfl))) Via.refl e0 P.2.2.2.2.2.2.2.2.2.2.2.2.2.2.2.2.2.2.2.2.2.2.2.2.2.2.2.2.1 (g := (mkF m 60 #[.val (.ref (w 1)), .val (.int n), .val (.int (0 : Int32))] [(.ref (w 1))])) rfl rfl (hb hby d1_60)
  refine Goes.by st113 ?_
  show Goes p e below (T113.setTop (mkF m 63 #[.val (.ref (w 1)), .val (.int n), .val (.int (0 : Int32))] [(.int (0 : Int32))])) _
  obtain ⟨fs, hr, hrun, hended, hW, hsame⟩ := X113.leave (v := some (.int (0 : Int32))) (fun h => by rw [Bd.returns] at h; cases h)
  exact ⟨_, _, retN X113 hx (t := .boolean) Bd.returns (by simp) (hb hby d1_63) hr, hrun, hended, _, _, rfl, ⟨rfl, N0, e113⟩, ⟨_, rfl⟩, hW, hsame.mono (by decide) (by decide)⟩
set_option maxRecDepth 65536 in
set_option maxHeartbeats 40000000 in
theorem r1_38 (l : Launch) (Z : State) (a0 : Array Value) (hw : ∀ d ∈ tables_1, d.before a0 Z = true) (ws : List Jvm.Cond) (h0 : Heap) (n0 : Nat) (Z0 : n0 ≤ h0.size) (n : Int32) (w : Nat → Addr) (hn0 : ¬ (n = (0 : Int32))) (hn1 : ¬ (n = (1 : Int32))) (hn3 : ¬ (n < (0 : Int32))) (P : Pins Z h0 w) :
    MetFree l (⟨"com/example/entail/entail/model/Scope", "reaches", "(IZ)Z"⟩ : MethodName) (head1 (Jvm.Cond.code (⟨"com/example/entail/entail/model/Scope", "reaches", "(IZ)Z"⟩ : MethodName) prog_11_method_6_code 3 (some .boolean) :: ws) ({ frames := 0, cells := 0, slots := 0, locals := 0 } : Room)) (fun a U => a = #[(.ref (w 2)), (.int n), (.int (0 : Int32))] ∧ Z.Warmed39 U.vm ∧ U.heap = h0) (fun _ _ _ _ _ => True) (fun _ U o U' => ∃ v L, o = .returned v ∧ QP (some (.int (0 : Int32))) h0 n0 v U'.heap L ∧ FrameEnd U o U' L ({ frames := 0, cells := 0, slots := 0, locals := 0 } : Room).cells ({ frames := 0, cells := 0, slots := 0, locals := 0 } : Room).slots) := by
  refine MetFree.of_bodySF (plainFor_of_name pn0) hisR ?_
  intro p e s m args below meth c s₁ Bd hml0 hP hK
  obtain ⟨rfl, hZ, hh⟩ := hP
  have hx := Bd.exec
  have hby := Bd.bytes
  have hml : c.maxLocals = 3 := hml0
  have hown : s.vm.findClass "com/example/entail/entail/model/Scope" = some m.cls := findClass_of_methodNamed Bd.named
  have hnm := (name_of_methodNamed Bd.named Bd.method).1
  have X0 : Stand p l e ({ frames := 0, cells := 0, slots := 0, locals := 0 } : Room) s m #[(.ref (w 2)), (.int n), (.int (0 : Int32))] below meth c s₁ [] 0 0 := Stand.of_body Bd
  have e0 : s₁.heap = h0 := by rw [← hh, Bd.state]; rfl
  have N0 := Fr.nil n0
  refine Goes.out (Goes.by (fun tz kz => castTop (ef1_RII m ((w 2)) n ((0 : Int32))) kz) ?_)
  show Goes p e below (s₁.setTop (mkF m 0 #[.val (.ref (w 2)), .val (.int n), .val (.int (0 : Int32))] [])) _
  refine Goes.by (fun _ kz => XS.iloadN X0.here hx rfl (hb hby d1_0) rfl (XS.ifYes X0.here hx rfl (pc0 := 1) (pc' := 18) rfl (hb hby d1_1) rfl ((if0 _ _).trans (flt hn3).2.1) (by decide) (by decide) (XS.iloadN X0.here hx rfl (hb hby d1_18) rfl kz))) ?_
  show Goes p e below (s₁.setTop (mkF m 19 #[.val (.ref (w 2)), .val (.int n), .val (.int (0 : Int32))] [(.int n)])) _
  refine Goes.by (fun _ kz => XS.ifYes X0.here hx rfl (pc0 := 19) (pc' := 27) rfl (hb hby d1_19) rfl ((if0 _ _).trans (feq hn0).2) (by decide) (by decide) (XS.iloadN X0.here hx rfl (hb hby d1_27) rfl (XS.iconst X0.here hx rfl (hb hby d1_28) kz))) ?_
  show Goes p e below (s₁.setTop (mkF m 29 #[.val (.ref (w 2)), .val (.int n), .val (.int (0 : Int32))] [(.int (1 : Int32)), (.int n)])) _
  refine Goes.by (fun _ kz => XS.icmpYes X0.here hx rfl (pc0 := 29) (pc' := 48) rfl (hb hby d1_29) rfl (feq hn1).2 (by decide) (by decide) (XS.iloadN X0.here hx rfl (hb hby d1_48) rfl (XS.ifYes X0.here hx rfl (pc0 := 49) (pc' := 59) rfl (hb hby d1_49) rfl ((if0 _ _).trans (teq (by decide : (0 : Int32) = (0 : Int32))).1) (by decide) (by decide) kz))) ?_
  show Goes p e below (s₁.setTop (mkF m 59 #[.val (.ref (w 2)), .val (.int n), .val (.int (0 : Int32))] [])) _
  refine Goes.by (fun _ kz => XS.aloadN X0.here hx rfl (hb hby d1_59) rfl rfl kz) ?_
  obtain ⟨T116, X116, e116, st116⟩ := getF X0 hx hZ hown (host := "") (Or.inl (hw _ (List.mem_of_getElem? (i := 9) rfl))) Via.refl e0 P.2.2.2.2.2.2.2.2.2.2.2.2.2.2.2.2.2.2.2.2.2.2.2.2.2.2.2.2.2.2.1 (g := (mkF m 60 #[.val (.ref (w 2)), .val (.int n), .val (.int (0 : Int32))] [(.ref (w 2))])) rfl rfl (hb hby d1_60)
  refine Goes.by st116 ?_
  show Goes p e below (T116.setTop (mkF m 63 #[.val (.ref (w 2)), .val (.int n), .val (.int (0 : Int32))] [(.int (0 : Int32))])) _
  obtain ⟨fs, hr, hrun, hended, hW, hsame⟩ := X116.leave (v := some (.int (0 : Int32))) (fun h => by rw [Bd.returns] at h; cases h)
  exact ⟨_, _, retN X116 hx (t := .boolean) Bd.returns (by simp) (hb hby d1_63) hr, hrun, hended, _, _, rfl, ⟨rfl, N0, e116⟩, ⟨_, rfl⟩, hW, hsame.mono (by decide) (by decide)⟩
set_option maxRecDepth 65536 in
set_option maxHeartbeats 40000000 in
theorem r1_39 (l : Launch) (Z : State) (a0 : Array Value) (hw : ∀ d ∈ tables_1, d.before a0 Z = true) (ws : List Jvm.Cond) (h0 : Heap) (n0 : Nat) (Z0 : n0 ≤ h0.size) (n : Int32) (w : Nat → Addr) (hn0 : ¬ (n = (0 : Int32))) (hn1 : ¬ (n = (1 : Int32))) (hn3 : ¬ (n < (0 : Int32))) (P : Pins Z h0 w) :
    MetFree l (⟨"com/example/entail/entail/model/Scope", "reaches", "(IZ)Z"⟩ : MethodName) (head1 (Jvm.Cond.code (⟨"com/example/entail/entail/model/Scope", "reaches", "(IZ)Z"⟩ : MethodName) prog_11_method_6_code 3 (some .boolean) :: ws) ({ frames := 0, cells := 0, slots := 0, locals := 0 } : Room)) (fun a U => a = #[(.ref (w 6)), (.int n), (.int (0 : Int32))] ∧ Z.Warmed39 U.vm ∧ U.heap = h0) (fun _ _ _ _ _ => True) (fun _ U o U' => ∃ v L, o = .returned v ∧ QP (some (.int (1 : Int32))) h0 n0 v U'.heap L ∧ FrameEnd U o U' L ({ frames := 0, cells := 0, slots := 0, locals := 0 } : Room).cells ({ frames := 0, cells := 0, slots := 0, locals := 0 } : Room).slots) := by
  refine MetFree.of_bodySF (plainFor_of_name pn0) hisR ?_
  intro p e s m args below meth c s₁ Bd hml0 hP hK
  obtain ⟨rfl, hZ, hh⟩ := hP
  have hx := Bd.exec
  have hby := Bd.bytes
  have hml : c.maxLocals = 3 := hml0
  have hown : s.vm.findClass "com/example/entail/entail/model/Scope" = some m.cls := findClass_of_methodNamed Bd.named
  have hnm := (name_of_methodNamed Bd.named Bd.method).1
  have X0 : Stand p l e ({ frames := 0, cells := 0, slots := 0, locals := 0 } : Room) s m #[(.ref (w 6)), (.int n), (.int (0 : Int32))] below meth c s₁ [] 0 0 := Stand.of_body Bd
  have e0 : s₁.heap = h0 := by rw [← hh, Bd.state]; rfl
  have N0 := Fr.nil n0
  refine Goes.out (Goes.by (fun tz kz => castTop (ef1_RII m ((w 6)) n ((0 : Int32))) kz) ?_)
  show Goes p e below (s₁.setTop (mkF m 0 #[.val (.ref (w 6)), .val (.int n), .val (.int (0 : Int32))] [])) _
  refine Goes.by (fun _ kz => XS.iloadN X0.here hx rfl (hb hby d1_0) rfl (XS.ifYes X0.here hx rfl (pc0 := 1) (pc' := 18) rfl (hb hby d1_1) rfl ((if0 _ _).trans (flt hn3).2.1) (by decide) (by decide) (XS.iloadN X0.here hx rfl (hb hby d1_18) rfl kz))) ?_
  show Goes p e below (s₁.setTop (mkF m 19 #[.val (.ref (w 6)), .val (.int n), .val (.int (0 : Int32))] [(.int n)])) _
  refine Goes.by (fun _ kz => XS.ifYes X0.here hx rfl (pc0 := 19) (pc' := 27) rfl (hb hby d1_19) rfl ((if0 _ _).trans (feq hn0).2) (by decide) (by decide) (XS.iloadN X0.here hx rfl (hb hby d1_27) rfl (XS.iconst X0.here hx rfl (hb hby d1_28) kz))) ?_
  show Goes p e below (s₁.setTop (mkF m 29 #[.val (.ref (w 6)), .val (.int n), .val (.int (0 : Int32))] [(.int (1 : Int32)), (.int n)])) _
  refine Goes.by (fun _ kz => XS.icmpYes X0.here hx rfl (pc0 := 29) (pc' := 48) rfl (hb hby d1_29) rfl (feq hn1).2 (by decide) (by decide) (XS.iloadN X0.here hx rfl (hb hby d1_48) rfl (XS.ifYes X0.here hx rfl (pc0 := 49) (pc' := 59) rfl (hb hby d1_49) rfl ((if0 _ _).trans (teq (by decide : (0 : Int32) = (0 : Int32))).1) (by decide) (by decide) kz))) ?_
  show Goes p e below (s₁.setTop (mkF m 59 #[.val (.ref (w 6)), .val (.int n), .val (.int (0 : Int32))] [])) _
  refine Goes.by (fun _ kz => XS.aloadN X0.here hx rfl (hb hby d1_59) rfl rfl kz) ?_
  obtain ⟨T119, X119, e119, st119⟩ := getF X0 hx hZ hown (host := "") (Or.inl (hw _ (List.mem_of_getElem? (i := 9) rfl))) Via.refl e0 P.2.2.2.2.2.2.2.2.2.2.2.2.2.2.2.2.2.2.2.2.2.2.2.2.2.2.2.2.2.2.2.2.2.2.2.2.2.2.2.2.2.1 (g := (mkF m 60 #[.val (.ref (w 6)), .val (.int n), .val (.int (0 : Int32))] [(.ref (w 6))])) rfl rfl (hb hby d1_60)
  refine Goes.by st119 ?_
  show Goes p e below (T119.setTop (mkF m 63 #[.val (.ref (w 6)), .val (.int n), .val (.int (0 : Int32))] [(.int (1 : Int32))])) _
  obtain ⟨fs, hr, hrun, hended, hW, hsame⟩ := X119.leave (v := some (.int (1 : Int32))) (fun h => by rw [Bd.returns] at h; cases h)
  exact ⟨_, _, retN X119 hx (t := .boolean) Bd.returns (by simp) (hb hby d1_63) hr, hrun, hended, _, _, rfl, ⟨rfl, N0, e119⟩, ⟨_, rfl⟩, hW, hsame.mono (by decide) (by decide)⟩
set_option maxRecDepth 65536 in
set_option maxHeartbeats 40000000 in
theorem r1_40 (l : Launch) (Z : State) (a0 : Array Value) (hw : ∀ d ∈ tables_1, d.before a0 Z = true) (ws : List Jvm.Cond) (h0 : Heap) (n0 : Nat) (Z0 : n0 ≤ h0.size) (n : Int32) (w : Nat → Addr) (hn0 : ¬ (n = (0 : Int32))) (hn1 : ¬ (n = (1 : Int32))) (hn3 : ¬ (n < (0 : Int32))) (P : Pins Z h0 w) :
    MetFree l (⟨"com/example/entail/entail/model/Scope", "reaches", "(IZ)Z"⟩ : MethodName) (head1 (Jvm.Cond.code (⟨"com/example/entail/entail/model/Scope", "reaches", "(IZ)Z"⟩ : MethodName) prog_11_method_6_code 3 (some .boolean) :: ws) ({ frames := 0, cells := 0, slots := 0, locals := 0 } : Room)) (fun a U => a = #[(.ref (w 7)), (.int n), (.int (0 : Int32))] ∧ Z.Warmed39 U.vm ∧ U.heap = h0) (fun _ _ _ _ _ => True) (fun _ U o U' => ∃ v L, o = .returned v ∧ QP (some (.int (0 : Int32))) h0 n0 v U'.heap L ∧ FrameEnd U o U' L ({ frames := 0, cells := 0, slots := 0, locals := 0 } : Room).cells ({ frames := 0, cells := 0, slots := 0, locals := 0 } : Room).slots) := by
  refine MetFree.of_bodySF (plainFor_of_name pn0) hisR ?_
  intro p e s m args below meth c s₁ Bd hml0 hP hK
  obtain ⟨rfl, hZ, hh⟩ := hP
  have hx := Bd.exec
  have hby := Bd.bytes
  have hml : c.maxLocals = 3 := hml0
  have hown : s.vm.findClass "com/example/entail/entail/model/Scope" = some m.cls := findClass_of_methodNamed Bd.named
  have hnm := (name_of_methodNamed Bd.named Bd.method).1
  have X0 : Stand p l e ({ frames := 0, cells := 0, slots := 0, locals := 0 } : Room) s m #[(.ref (w 7)), (.int n), (.int (0 : Int32))] below meth c s₁ [] 0 0 := Stand.of_body Bd
  have e0 : s₁.heap = h0 := by rw [← hh, Bd.state]; rfl
  have N0 := Fr.nil n0
  refine Goes.out (Goes.by (fun tz kz => castTop (ef1_RII m ((w 7)) n ((0 : Int32))) kz) ?_)
  show Goes p e below (s₁.setTop (mkF m 0 #[.val (.ref (w 7)), .val (.int n), .val (.int (0 : Int32))] [])) _
  refine Goes.by (fun _ kz => XS.iloadN X0.here hx rfl (hb hby d1_0) rfl (XS.ifYes X0.here hx rfl (pc0 := 1) (pc' := 18) rfl (hb hby d1_1) rfl ((if0 _ _).trans (flt hn3).2.1) (by decide) (by decide) (XS.iloadN X0.here hx rfl (hb hby d1_18) rfl kz))) ?_
  show Goes p e below (s₁.setTop (mkF m 19 #[.val (.ref (w 7)), .val (.int n), .val (.int (0 : Int32))] [(.int n)])) _
  refine Goes.by (fun _ kz => XS.ifYes X0.here hx rfl (pc0 := 19) (pc' := 27) rfl (hb hby d1_19) rfl ((if0 _ _).trans (feq hn0).2) (by decide) (by decide) (XS.iloadN X0.here hx rfl (hb hby d1_27) rfl (XS.iconst X0.here hx rfl (hb hby d1_28) kz))) ?_
  show Goes p e below (s₁.setTop (mkF m 29 #[.val (.ref (w 7)), .val (.int n), .val (.int (0 : Int32))] [(.int (1 : Int32)), (.int n)])) _
  refine Goes.by (fun _ kz => XS.icmpYes X0.here hx rfl (pc0 := 29) (pc' := 48) rfl (hb hby d1_29) rfl (feq hn1).2 (by decide) (by decide) (XS.iloadN X0.here hx rfl (hb hby d1_48) rfl (XS.ifYes X0.here hx rfl (pc0 := 49) (pc' := 59) rfl (hb hby d1_49) rfl ((if0 _ _).trans (teq (by decide : (0 : Int32) = (0 : Int32))).1) (by decide) (by decide) kz))) ?_
  show Goes p e below (s₁.setTop (mkF m 59 #[.val (.ref (w 7)), .val (.int n), .val (.int (0 : Int32))] [])) _
  refine Goes.by (fun _ kz => XS.aloadN X0.here hx rfl (hb hby d1_59) rfl rfl kz) ?_
  obtain ⟨T122, X122, e122, st122⟩ := getF X0 hx hZ hown (host := "") (Or.inl (hw _ (List.mem_of_getElem? (i := 9) rfl))) Via.refl e0 P.2.2.2.2.2.2.2.2.2.2.2.2.2.2.2.2.2.2.2.2.2.2.2.2.2.2.2.2.2.2.2.1 (g := (mkF m 60 #[.val (.ref (w 7)), .val (.int n), .val (.int (0 : Int32))] [(.ref (w 7))])) rfl rfl (hb hby d1_60)
  refine Goes.by st122 ?_
  show Goes p e below (T122.setTop (mkF m 63 #[.val (.ref (w 7)), .val (.int n), .val (.int (0 : Int32))] [(.int (0 : Int32))])) _
  obtain ⟨fs, hr, hrun, hended, hW, hsame⟩ := X122.leave (v := some (.int (0 : Int32))) (fun h => by rw [Bd.returns] at h; cases h)
  exact ⟨_, _, retN X122 hx (t := .boolean) Bd.returns (by simp) (hb hby d1_63) hr, hrun, hended, _, _, rfl, ⟨rfl, N0, e122⟩, ⟨_, rfl⟩, hW, hsame.mono (by decide) (by decide)⟩
set_option maxRecDepth 65536 in
set_option maxHeartbeats 40000000 in
theorem r1_41 (l : Launch) (Z : State) (a0 : Array Value) (hw : ∀ d ∈ tables_1, d.before a0 Z = true) (ws : List Jvm.Cond) (h0 : Heap) (n0 : Nat) (Z0 : n0 ≤ h0.size) (n : Int32) (w : Nat → Addr) (hn0 : ¬ (n = (0 : Int32))) (hn1 : ¬ (n = (1 : Int32))) (hn3 : ¬ (n < (0 : Int32))) (P : Pins Z h0 w) :
    MetFree l (⟨"com/example/entail/entail/model/Scope", "reaches", "(IZ)Z"⟩ : MethodName) (head1 (Jvm.Cond.code (⟨"com/example/entail/entail/model/Scope", "reaches", "(IZ)Z"⟩ : MethodName) prog_11_method_6_code 3 (some .boolean) :: ws) ({ frames := 0, cells := 0, slots := 0, locals := 0 } : Room)) (fun a U => a = #[(.ref (w 8)), (.int n), (.int (0 : Int32))] ∧ Z.Warmed39 U.vm ∧ U.heap = h0) (fun _ _ _ _ _ => True) (fun _ U o U' => ∃ v L, o = .returned v ∧ QP (some (.int (1 : Int32))) h0 n0 v U'.heap L ∧ FrameEnd U o U' L ({ frames := 0, cells := 0, slots := 0, locals := 0 } : Room).cells ({ frames := 0, cells := 0, slots := 0, locals := 0 } : Room).slots) := by
  refine MetFree.of_bodySF (plainFor_of_name pn0) hisR ?_
  intro p e s m args below meth c s₁ Bd hml0 hP hK
  obtain ⟨rfl, hZ, hh⟩ := hP
  have hx := Bd.exec
  have hby := Bd.bytes
  have hml : c.maxLocals = 3 := hml0
  have hown : s.vm.findClass "com/example/entail/entail/model/Scope" = some m.cls := findClass_of_methodNamed Bd.named
  have hnm := (name_of_methodNamed Bd.named Bd.method).1
  have X0 : Stand p l e ({ frames := 0, cells := 0, slots := 0, locals := 0 } : Room) s m #[(.ref (w 8)), (.int n), (.int (0 : Int32))] below meth c s₁ [] 0 0 := Stand.of_body Bd
  have e0 : s₁.heap = h0 := by rw [← hh, Bd.state]; rfl
  have N0 := Fr.nil n0
  refine Goes.out (Goes.by (fun tz kz => castTop (ef1_RII m ((w 8)) n ((0 : Int32))) kz) ?_)
  show Goes p e below (s₁.setTop (mkF m 0 #[.val (.ref (w 8)), .val (.int n), .val (.int (0 : Int32))] [])) _
  refine Goes.by (fun _ kz => XS.iloadN X0.here hx rfl (hb hby d1_0) rfl (XS.ifYes X0.here hx rfl (pc0 := 1) (pc' := 18) rfl (hb hby d1_1) rfl ((if0 _ _).trans (flt hn3).2.1) (by decide) (by decide) (XS.iloadN X0.here hx rfl (hb hby d1_18) rfl kz))) ?_
  show Goes p e below (s₁.setTop (mkF m 19 #[.val (.ref (w 8)), .val (.int n), .val (.int (0 : Int32))] [(.int n)])) _
  refine Goes.by (fun _ kz => XS.ifYes X0.here hx rfl (pc0 := 19) (pc' := 27) rfl (hb hby d1_19) rfl ((if0 _ _).trans (feq hn0).2) (by decide) (by decide) (XS.iloadN X0.here hx rfl (hb hby d1_27) rfl (XS.iconst X0.here hx rfl (hb hby d1_28) kz))) ?_
  show Goes p e below (s₁.setTop (mkF m 29 #[.val (.ref (w 8)), .val (.int n), .val (.int (0 : Int32))] [(.int (1 : Int32)), (.int n)])) _
  refine Goes.by (fun _ kz => XS.icmpYes X0.here hx rfl (pc0 := 29) (pc' := 48) rfl (hb hby d1_29) rfl (feq hn1).2 (by decide) (by decide) (XS.iloadN X0.here hx rfl (hb hby d1_48) rfl (XS.ifYes X0.here hx rfl (pc0 := 49) (pc' := 59) rfl (hb hby d1_49) rfl ((if0 _ _).trans (teq (by decide : (0 : Int32) = (0 : Int32))).1) (by decide) (by decide) kz))) ?_
  show Goes p e below (s₁.setTop (mkF m 59 #[.val (.ref (w 8)), .val (.int n), .val (.int (0 : Int32))] [])) _
  refine Goes.by (fun _ kz => XS.aloadN X0.here hx rfl (hb hby d1_59) rfl rfl kz) ?_
  obtain ⟨T125, X125, e125, st125⟩ := getF X0 hx hZ hown (host := "") (Or.inl (hw _ (List.mem_of_getElem? (i := 9) rfl))) Via.refl e0 P.2.2.2.2.2.2.2.2.2.2.2.2.2.2.2.2.2.2.2.2.2.2.2.2.2.2.2.2.2.2.2.2.2.2.1 (g := (mkF m 60 #[.val (.ref (w 8)), .val (.int n), .val (.int (0 : Int32))] [(.ref (w 8))])) rfl rfl (hb hby d1_60)
  refine Goes.by st125 ?_
  show Goes p e below (T125.setTop (mkF m 63 #[.val (.ref (w 8)), .val (.int n), .val (.int (0 : Int32))] [(.int (1 : Int32))])) _
  obtain ⟨fs, hr, hrun, hended, hW, hsame⟩ := X125.leave (v := some (.int (1 : Int32))) (fun h => by rw [Bd.returns] at h; cases h)
  exact ⟨_, _, retN X125 hx (t := .boolean) Bd.returns (by simp) (hb hby d1_63) hr, hrun, hended, _, _, rfl, ⟨rfl, N0, e125⟩, ⟨_, rfl⟩, hW, hsame.mono (by decide) (by decide)⟩
set_option maxRecDepth 65536 in
set_option maxHeartbeats 40000000 in
theorem r1_42 (l : Launch) (Z : State) (a0 : Array Value) (hw : ∀ d ∈ tables_1, d.before a0 Z = true) (ws : List Jvm.Cond) (h0 : Heap) (n0 : Nat) (Z0 : n0 ≤ h0.size) (n : Int32) (w : Nat → Addr) (hn0 : ¬ (n = (0 : Int32))) (hn1 : ¬ (n = (1 : Int32))) (hn3 : ¬ (n < (0 : Int32))) (P : Pins Z h0 w) :
    MetFree l (⟨"com/example/entail/entail/model/Scope", "reaches", "(IZ)Z"⟩ : MethodName) (head1 (Jvm.Cond.code (⟨"com/example/entail/entail/model/Scope", "reaches", "(IZ)Z"⟩ : MethodName) prog_11_method_6_code 3 (some .boolean) :: ws) ({ frames := 0, cells := 0, slots := 0, locals := 0 } : Room)) (fun a U => a = #[(.ref (w 4)), (.int n), (.int (0 : Int32))] ∧ Z.Warmed39 U.vm ∧ U.heap = h0) (fun _ _ _ _ _ => True) (fun _ U o U' => ∃ v L, o = .returned v ∧ QP (some (.int (0 : Int32))) h0 n0 v U'.heap L ∧ FrameEnd U o U' L ({ frames := 0, cells := 0, slots := 0, locals := 0 } : Room).cells ({ frames := 0, cells := 0, slots := 0, locals := 0 } : Room).slots) := by
  refine MetFree.of_bodySF (plainFor_of_name pn0) hisR ?_
  intro p e s m args below meth c s₁ Bd hml0 hP hK
  obtain ⟨rfl, hZ, hh⟩ := hP
  have hx := Bd.exec
  have hby := Bd.bytes
  have hml : c.maxLocals = 3 := hml0
  have hown : s.vm.findClass "com/example/entail/entail/model/Scope" = some m.cls := findClass_of_methodNamed Bd.named
  have hnm := (name_of_methodNamed Bd.named Bd.method).1
  have X0 : Stand p l e ({ frames := 0, cells := 0, slots := 0, locals := 0 } : Room) s m #[(.ref (w 4)), (.int n), (.int (0 : Int32))] below meth c s₁ [] 0 0 := Stand.of_body Bd
  have e0 : s₁.heap = h0 := by rw [← hh, Bd.state]; rfl
  have N0 := Fr.nil n0
  refine Goes.out (Goes.by (fun tz kz => castTop (ef1_RII m ((w 4)) n ((0 : Int32))) kz) ?_)
  show Goes p e below (s₁.setTop (mkF m 0 #[.val (.ref (w 4)), .val (.int n), .val (.int (0 : Int32))] [])) _
  refine Goes.by (fun _ kz => XS.iloadN X0.here hx rfl (hb hby d1_0) rfl (XS.ifYes X0.here hx rfl (pc0 := 1) (pc' := 18) rfl (hb hby d1_1) rfl ((if0 _ _).trans (flt hn3).2.1) (by decide) (by decide) (XS.iloadN X0.here hx rfl (hb hby d1_18) rfl kz))) ?_
  show Goes p e below (s₁.setTop (mkF m 19 #[.val (.ref (w 4)), .val (.int n), .val (.int (0 : Int32))] [(.int n)])) _
  refine Goes.by (fun _ kz => XS.ifYes X0.here hx rfl (pc0 := 19) (pc' := 27) rfl (hb hby d1_19) rfl ((if0 _ _).trans (feq hn0).2) (by decide) (by decide) (XS.iloadN X0.here hx rfl (hb hby d1_27) rfl (XS.iconst X0.here hx rfl (hb hby d1_28) kz))) ?_
  show Goes p e below (s₁.setTop (mkF m 29 #[.val (.ref (w 4)), .val (.int n), .val (.int (0 : Int32))] [(.int (1 : Int32)), (.int n)])) _
  refine Goes.by (fun _ kz => XS.icmpYes X0.here hx rfl (pc0 := 29) (pc' := 48) rfl (hb hby d1_29) rfl (feq hn1).2 (by decide) (by decide) (XS.iloadN X0.here hx rfl (hb hby d1_48) rfl (XS.ifYes X0.here hx rfl (pc0 := 49) (pc' := 59) rfl (hb hby d1_49) rfl ((if0 _ _).trans (teq (by decide : (0 : Int32) = (0 : Int32))).1) (by decide) (by decide) kz))) ?_
  show Goes p e below (s₁.setTop (mkF m 59 #[.val (.ref (w 4)), .val (.int n), .val (.int (0 : Int32))] [])) _
  refine Goes.by (fun _ kz => XS.aloadN X0.here hx rfl (hb hby d1_59) rfl rfl kz) ?_
  obtain ⟨T128, X128, e128, st128⟩ := getF X0 hx hZ hown (host := "") (Or.inl (hw _ (List.mem_of_getElem? (i := 9) rfl))) Via.refl e0 P.2.2.2.2.2.2.2.2.2.2.2.2.2.2.2.2.2.2.2.2.2.2.2.2.2.2.2.2.2.2.2.2.2.1 (g := (mkF m 60 #[.val (.ref (w 4)), .val (.int n), .val (.int (0 : Int32))] [(.ref (w 4))])) rfl rfl (hb hby d1_60)
  refine Goes.by st128 ?_
  show Goes p e below (T128.setTop (mkF m 63 #[.val (.ref (w 4)), .val (.int n), .val (.int (0 : Int32))] [(.int (0 : Int32))])) _
  obtain ⟨fs, hr, hrun, hended, hW, hsame⟩ := X128.leave (v := some (.int (0 : Int32))) (fun h => by rw [Bd.returns] at h; cases h)
  exact ⟨_, _, retN X128 hx (t := .boolean) Bd.returns (by simp) (hb hby d1_63) hr, hrun, hended, _, _, rfl, ⟨rfl, N0, e128⟩, ⟨_, rfl⟩, hW, hsame.mono (by decide) (by decide)⟩
set_option maxRecDepth 65536 in
set_option maxHeartbeats 40000000 in
theorem r1_43 (l : Launch) (Z : State) (a0 : Array Value) (hw : ∀ d ∈ tables_1, d.before a0 Z = true) (ws : List Jvm.Cond) (h0 : Heap) (n0 : Nat) (Z0 : n0 ≤ h0.size) (n : Int32) (w : Nat → Addr) (hn0 : ¬ (n = (0 : Int32))) (hn1 : ¬ (n = (1 : Int32))) (hn3 : ¬ (n < (0 : Int32))) (P : Pins Z h0 w) :
    MetFree l (⟨"com/example/entail/entail/model/Scope", "reaches", "(IZ)Z"⟩ : MethodName) (head1 (Jvm.Cond.code (⟨"com/example/entail/entail/model/Scope", "reaches", "(IZ)Z"⟩ : MethodName) prog_11_method_6_code 3 (some .boolean) :: ws) ({ frames := 0, cells := 0, slots := 0, locals := 0 } : Room)) (fun a U => a = #[(.ref (w 5)), (.int n), (.int (0 : Int32))] ∧ Z.Warmed39 U.vm ∧ U.heap = h0) (fun _ _ _ _ _ => True) (fun _ U o U' => ∃ v L, o = .returned v ∧ QP (some (.int (0 : Int32))) h0 n0 v U'.heap L ∧ FrameEnd U o U' L ({ frames := 0, cells := 0, slots := 0, locals := 0 } : Room).cells ({ frames := 0, cells := 0, slots := 0, locals := 0 } : Room).slots) := by
  refine MetFree.of_bodySF (plainFor_of_name pn0) hisR ?_
  intro p e s m args below meth c s₁ Bd hml0 hP hK
  obtain ⟨rfl, hZ, hh⟩ := hP
  have hx := Bd.exec
  have hby := Bd.bytes
  have hml : c.maxLocals = 3 := hml0
  have hown : s.vm.findClass "com/example/entail/entail/model/Scope" = some m.cls := findClass_of_methodNamed Bd.named
  have hnm := (name_of_methodNamed Bd.named Bd.method).1
  have X0 : Stand p l e ({ frames := 0, cells := 0, slots := 0, locals := 0 } : Room) s m #[(.ref (w 5)), (.int n), (.int (0 : Int32))] below meth c s₁ [] 0 0 := Stand.of_body Bd
  have e0 : s₁.heap = h0 := by rw [← hh, Bd.state]; rfl
  have N0 := Fr.nil n0
  refine Goes.out (Goes.by (fun tz kz => castTop (ef1_RII m ((w 5)) n ((0 : Int32))) kz) ?_)
  show Goes p e below (s₁.setTop (mkF m 0 #[.val (.ref (w 5)), .val (.int n), .val (.int (0 : Int32))] [])) _
  refine Goes.by (fun _ kz => XS.iloadN X0.here hx rfl (hb hby d1_0) rfl (XS.ifYes X0.here hx rfl (pc0 := 1) (pc' := 18) rfl (hb hby d1_1) rfl ((if0 _ _).trans (flt hn3).2.1) (by decide) (by decide) (XS.iloadN X0.here hx rfl (hb hby d1_18) rfl kz))) ?_
  show Goes p e below (s₁.setTop (mkF m 19 #[.val (.ref (w 5)), .val (.int n), .val (.int (0 : Int32))] [(.int n)])) _
  refine Goes.by (fun _ kz => XS.ifYes X0.here hx rfl (pc0 := 19) (pc' := 27) rfl (hb hby d1_19) rfl ((if0 _ _).trans (feq hn0).2) (by decide) (by decide) (XS.iloadN X0.here hx rfl (hb hby d1_27) rfl (XS.iconst X0.here hx rfl (hb hby d1_28) kz))) ?_
  show Goes p e below (s₁.setTop (mkF m 29 #[.val (.ref (w 5)), .val (.int n), .val (.int (0 : Int32))] [(.int (1 : Int32)), (.int n)])) _
  refine Goes.by (fun _ kz => XS.icmpYes X0.here hx rfl (pc0 := 29) (pc' := 48) rfl (hb hby d1_29) rfl (feq hn1).2 (by decide) (by decide) (XS.iloadN X0.here hx rfl (hb hby d1_48) rfl (XS.ifYes X0.here hx rfl (pc0 := 49) (pc' := 59) rfl (hb hby d1_49) rfl ((if0 _ _).trans (teq (by decide : (0 : Int32) = (0 : Int32))).1) (by decide) (by decide) kz))) ?_
  show Goes p e below (s₁.setTop (mkF m 59 #[.val (.ref (w 5)), .val (.int n), .val (.int (0 : Int32))] [])) _
  refine Goes.by (fun _ kz => XS.aloadN X0.here hx rfl (hb hby d1_59) rfl rfl kz) ?_
  obtain ⟨T131, X131, e131, st131⟩ := getF X0 hx hZ hown (host := "") (Or.inl (hw _ (List.mem_of_getElem? (i := 9) rfl))) Via.refl e0 P.2.2.2.2.2.2.2.2.2.2.2.2.2.2.2.2.2.2.2.2.2.2.2.2.2.2.2.2.2.1 (g := (mkF m 60 #[.val (.ref (w 5)), .val (.int n), .val (.int (0 : Int32))] [(.ref (w 5))])) rfl rfl (hb hby d1_60)
  refine Goes.by st131 ?_
  show Goes p e below (T131.setTop (mkF m 63 #[.val (.ref (w 5)), .val (.int n), .val (.int (0 : Int32))] [(.int (0 : Int32))])) _
  obtain ⟨fs, hr, hrun, hended, hW, hsame⟩ := X131.leave (v := some (.int (0 : Int32))) (fun h => by rw [Bd.returns] at h; cases h)
  exact ⟨_, _, retN X131 hx (t := .boolean) Bd.returns (by simp) (hb hby d1_63) hr, hrun, hended, _, _, rfl, ⟨rfl, N0, e131⟩, ⟨_, rfl⟩, hW, hsame.mono (by decide) (by decide)⟩
set_option maxRecDepth 65536 in
set_option maxHeartbeats 40000000 in
theorem r1_44 (l : Launch) (Z : State) (a0 : Array Value) (hw : ∀ d ∈ tables_1, d.before a0 Z = true) (ws : List Jvm.Cond) (h0 : Heap) (n0 : Nat) (Z0 : n0 ≤ h0.size) (n : Int32) (w : Nat → Addr) (hn0 : ¬ (n = (0 : Int32))) (hn1 : ¬ (n = (1 : Int32))) (hn3 : ¬ (n < (0 : Int32))) (P : Pins Z h0 w) :
    MetFree l (⟨"com/example/entail/entail/model/Scope", "reaches", "(IZ)Z"⟩ : MethodName) (head1 (Jvm.Cond.code (⟨"com/example/entail/entail/model/Scope", "reaches", "(IZ)Z"⟩ : MethodName) prog_11_method_6_code 3 (some .boolean) :: ws) ({ frames := 0, cells := 0, slots := 0, locals := 0 } : Room)) (fun a U => a = #[(.ref (w 3)), (.int n), (.int (0 : Int32))] ∧ Z.Warmed39 U.vm ∧ U.heap = h0) (fun _ _ _ _ _ => True) (fun _ U o U' => ∃ v L, o = .returned v ∧ QP (some (.int (0 : Int32))) h0 n0 v U'.heap L ∧ FrameEnd U o U' L ({ frames := 0, cells := 0, slots := 0, locals := 0 } : Room).cells ({ frames := 0, cells := 0, slots := 0, locals := 0 } : Room).slots) := by
  refine MetFree.of_bodySF (plainFor_of_name pn0) hisR ?_
  intro p e s m args below meth c s₁ Bd hml0 hP hK
  obtain ⟨rfl, hZ, hh⟩ := hP
  have hx := Bd.exec
  have hby := Bd.bytes
  have hml : c.maxLocals = 3 := hml0
  have hown : s.vm.findClass "com/example/entail/entail/model/Scope" = some m.cls := findClass_of_methodNamed Bd.named
  have hnm := (name_of_methodNamed Bd.named Bd.method).1
  have X0 : Stand p l e ({ frames := 0, cells := 0, slots := 0, locals := 0 } : Room) s m #[(.ref (w 3)), (.int n), (.int (0 : Int32))] below meth c s₁ [] 0 0 := Stand.of_body Bd
  have e0 : s₁.heap = h0 := by rw [← hh, Bd.state]; rfl
  have N0 := Fr.nil n0
  refine Goes.out (Goes.by (fun tz kz => castTop (ef1_RII m ((w 3)) n ((0 : Int32))) kz) ?_)
  show Goes p e below (s₁.setTop (mkF m 0 #[.val (.ref (w 3)), .val (.int n), .val (.int (0 : Int32))] [])) _
  refine Goes.by (fun _ kz => XS.iloadN X0.here hx rfl (hb hby d1_0) rfl (XS.ifYes X0.here hx rfl (pc0 := 1) (pc' := 18) rfl (hb hby d1_1) rfl ((if0 _ _).trans (flt hn3).2.1) (by decide) (by decide) (XS.iloadN X0.here hx rfl (hb hby d1_18) rfl kz))) ?_
  show Goes p e below (s₁.setTop (mkF m 19 #[.val (.ref (w 3)), .val (.int n), .val (.int (0 : Int32))] [(.int n)])) _
  refine Goes.by (fun _ kz => XS.ifYes X0.here hx rfl (pc0 := 19) (pc' := 27) rfl (hb hby d1_19) rfl ((if0 _ _).trans (feq hn0).2) (by decide) (by decide) (XS.iloadN X0.here hx rfl (hb hby d1_27) rfl (XS.iconst X0.here hx rfl (hb hby d1_28) kz))) ?_
  show Goes p e below (s₁.setTop (mkF m 29 #[.val (.ref (w 3)), .val (.int n), .val (.int (0 : Int32))] [(.int (1 : Int32)), (.int n)])) _
  refine Goes.by (fun _ kz => XS.icmpYes X0.here hx rfl (pc0 := 29) (pc' := 48) rfl (hb hby d1_29) rfl (feq hn1).2 (by decide) (by decide) (XS.iloadN X0.here hx rfl (hb hby d1_48) rfl (XS.ifYes X0.here hx rfl (pc0 := 49) (pc' := 59) rfl (hb hby d1_49) rfl ((if0 _ _).trans (teq (by decide : (0 : Int32) = (0 : Int32))).1) (by decide) (by decide) kz))) ?_
  show Goes p e below (s₁.setTop (mkF m 59 #[.val (.ref (w 3)), .val (.int n), .val (.int (0 : Int32))] [])) _
  refine Goes.by (fun _ kz => XS.aloadN X0.here hx rfl (hb hby d1_59) rfl rfl kz) ?_
  obtain ⟨T134, X134, e134, st134⟩ := getF X0 hx hZ hown (host := "") (Or.inl (hw _ (List.mem_of_getElem? (i := 9) rfl))) Via.refl e0 P.2.2.2.2.2.2.2.2.2.2.2.2.2.2.2.2.2.2.2.2.2.2.2.2.2.2.2.2.2.2.2.2.2.2.2.2.2.2.1 (g := (mkF m 60 #[.val (.ref (w 3)), .val (.int n), .val (.int (0 : Int32))] [(.ref (w 3))])) rfl rfl (hb hby d1_60)
  refine Goes.by st134 ?_
  show Goes p e below (T134.setTop (mkF m 63 #[.val (.ref (w 3)), .val (.int n), .val (.int (0 : Int32))] [(.int (0 : Int32))])) _
  obtain ⟨fs, hr, hrun, hended, hW, hsame⟩ := X134.leave (v := some (.int (0 : Int32))) (fun h => by rw [Bd.returns] at h; cases h)
  exact ⟨_, _, retN X134 hx (t := .boolean) Bd.returns (by simp) (hb hby d1_63) hr, hrun, hended, _, _, rfl, ⟨rfl, N0, e134⟩, ⟨_, rfl⟩, hW, hsame.mono (by decide) (by decide)⟩
set_option maxRecDepth 65536 in
set_option maxHeartbeats 40000000 in
theorem r1_45 (l : Launch) (Z : State) (a0 : Array Value) (hw : ∀ d ∈ tables_1, d.before a0 Z = true) (ws : List Jvm.Cond) (h0 : Heap) (n0 : Nat) (Z0 : n0 ≤ h0.size) (n : Int32) (w : Nat → Addr) (hn0 : ¬ (n = (0 : Int32))) (hn1 : ¬ (n = (1 : Int32))) (hn3 : ¬ (n < (0 : Int32))) (P : Pins Z h0 w) :
    MetFree l (⟨"com/example/entail/entail/model/Scope", "reaches", "(IZ)Z"⟩ : MethodName) (head1 (Jvm.Cond.code (⟨"com/example/entail/entail/model/Scope", "reaches", "(IZ)Z"⟩ : MethodName) prog_11_method_6_code 3 (some .boolean) :: ws) ({ frames := 0, cells := 0, slots := 0, locals := 0 } : Room)) (fun a U => a = #[(.ref (w 0)), (.int n), (.int (1 : Int32))] ∧ Z.Warmed39 U.vm ∧ U.heap = h0) (fun _ _ _ _ _ => True) (fun _ U o U' => ∃ v L, o = .returned v ∧ QP (some (.int (1 : Int32))) h0 n0 v U'.heap L ∧ FrameEnd U o U' L ({ frames := 0, cells := 0, slots := 0, locals := 0 } : Room).cells ({ frames := 0, cells := 0, slots := 0, locals := 0 } : Room).slots) := by
  refine MetFree.of_bodySF (plainFor_of_name pn0) hisR ?_
  intro p e s m args below meth c s₁ Bd hml0 hP hK
  obtain ⟨rfl, hZ, hh⟩ := hP
  have hx := Bd.exec
  have hby := Bd.bytes
  have hml : c.maxLocals = 3 := hml0
  have hown : s.vm.findClass "com/example/entail/entail/model/Scope" = some m.cls := findClass_of_methodNamed Bd.named
  have hnm := (name_of_methodNamed Bd.named Bd.method).1
  have X0 : Stand p l e ({ frames := 0, cells := 0, slots := 0, locals := 0 } : Room) s m #[(.ref (w 0)), (.int n), (.int (1 : Int32))] below meth c s₁ [] 0 0 := Stand.of_body Bd
  have e0 : s₁.heap = h0 := by rw [← hh, Bd.state]; rfl
  have N0 := Fr.nil n0
  refine Goes.out (Goes.by (fun tz kz => castTop (ef1_RII m ((w 0)) n ((1 : Int32))) kz) ?_)
  show Goes p e below (s₁.setTop (mkF m 0 #[.val (.ref (w 0)), .val (.int n), .val (.int (1 : Int32))] [])) _
  refine Goes.by (fun _ kz => XS.iloadN X0.here hx rfl (hb hby d1_0) rfl (XS.ifYes X0.here hx rfl (pc0 := 1) (pc' := 18) rfl (hb hby d1_1) rfl ((if0 _ _).trans (flt hn3).2.1) (by decide) (by decide) (XS.iloadN X0.here hx rfl (hb hby d1_18) rfl kz))) ?_
  show Goes p e below (s₁.setTop (mkF m 19 #[.val (.ref (w 0)), .val (.int n), .val (.int (1 : Int32))] [(.int n)])) _
  refine Goes.by (fun _ kz => XS.ifYes X0.here hx rfl (pc0 := 19) (pc' := 27) rfl (hb hby d1_19) rfl ((if0 _ _).trans (feq hn0).2) (by decide) (by decide) (XS.iloadN X0.here hx rfl (hb hby d1_27) rfl (XS.iconst X0.here hx rfl (hb hby d1_28) kz))) ?_
  show Goes p e below (s₁.setTop (mkF m 29 #[.val (.ref (w 0)), .val (.int n), .val (.int (1 : Int32))] [(.int (1 : Int32)), (.int n)])) _
  refine Goes.by (fun _ kz => XS.icmpYes X0.here hx rfl (pc0 := 29) (pc' := 48) rfl (hb hby d1_29) rfl (feq hn1).2 (by decide) (by decide) (XS.iloadN X0.here hx rfl (hb hby d1_48) rfl (XS.ifNo X0.here hx rfl (hb hby d1_49) rfl ((if0 _ _).trans (feq (by decide : ¬ ((1 : Int32) = (0 : Int32)))).1) kz))) ?_
  show Goes p e below (s₁.setTop (mkF m 52 #[.val (.ref (w 0)), .val (.int n), .val (.int (1 : Int32))] [])) _
  refine Goes.by (fun _ kz => XS.aloadN X0.here hx rfl (hb hby d1_52) rfl rfl kz) ?_
  obtain ⟨T137, X137, e137, st137⟩ := getF X0 hx hZ hown (host := "") (Or.inl (hw _ (List.mem_of_getElem? (i := 13) rfl))) Via.refl e0 P.2.2.2.2.2.2.2.2.2.2.2.2.2.2.2.2.2.2.2.2.2.2.2.2.2.1 (g := (mkF m 53 #[.val (.ref (w 0)), .val (.int n), .val (.int (1 : Int32))] [(.ref (w 0))])) rfl rfl (hb hby d1_53)
  refine Goes.by st137 ?_
  refine Goes.by (fun _ kz => XS.goto X137.here hx rfl (pc0 := 56) (pc' := 63) rfl (hb hby d1_56) (by decide) (by decide) kz) ?_
  show Goes p e below (T137.setTop (mkF m 63 #[.val (.ref (w 0)), .val (.int n), .val (.int (1 : Int32))] [(.int (1 : Int32))])) _
  obtain ⟨fs, hr, hrun, hended, hW, hsame⟩ := X137.leave (v := some (.int (1 : Int32))) (fun h => by rw [Bd.returns] at h; cases h)
  exact ⟨_, _, retN X137 hx (t := .boolean) Bd.returns (by simp) (hb hby d1_63) hr, hrun, hended, _, _, rfl, ⟨rfl, N0, e137⟩, ⟨_, rfl⟩, hW, hsame.mono (by decide) (by decide)⟩
set_option maxRecDepth 65536 in
set_option maxHeartbeats 40000000 in
theorem r1_46 (l : Launch) (Z : State) (a0 : Array Value) (hw : ∀ d ∈ tables_1, d.before a0 Z = true) (ws : List Jvm.Cond) (h0 : Heap) (n0 : Nat) (Z0 : n0 ≤ h0.size) (n : Int32) (w : Nat → Addr) (hn0 : ¬ (n = (0 : Int32))) (hn1 : ¬ (n = (1 : Int32))) (hn3 : ¬ (n < (0 : Int32))) (P : Pins Z h0 w) :
    MetFree l (⟨"com/example/entail/entail/model/Scope", "reaches", "(IZ)Z"⟩ : MethodName) (head1 (Jvm.Cond.code (⟨"com/example/entail/entail/model/Scope", "reaches", "(IZ)Z"⟩ : MethodName) prog_11_method_6_code 3 (some .boolean) :: ws) ({ frames := 0, cells := 0, slots := 0, locals := 0 } : Room)) (fun a U => a = #[(.ref (w 1)), (.int n), (.int (1 : Int32))] ∧ Z.Warmed39 U.vm ∧ U.heap = h0) (fun _ _ _ _ _ => True) (fun _ U o U' => ∃ v L, o = .returned v ∧ QP (some (.int (1 : Int32))) h0 n0 v U'.heap L ∧ FrameEnd U o U' L ({ frames := 0, cells := 0, slots := 0, locals := 0 } : Room).cells ({ frames := 0, cells := 0, slots := 0, locals := 0 } : Room).slots) := by
  refine MetFree.of_bodySF (plainFor_of_name pn0) hisR ?_
  intro p e s m args below meth c s₁ Bd hml0 hP hK
  obtain ⟨rfl, hZ, hh⟩ := hP
  have hx := Bd.exec
  have hby := Bd.bytes
  have hml : c.maxLocals = 3 := hml0
  have hown : s.vm.findClass "com/example/entail/entail/model/Scope" = some m.cls := findClass_of_methodNamed Bd.named
  have hnm := (name_of_methodNamed Bd.named Bd.method).1
  have X0 : Stand p l e ({ frames := 0, cells := 0, slots := 0, locals := 0 } : Room) s m #[(.ref (w 1)), (.int n), (.int (1 : Int32))] below meth c s₁ [] 0 0 := Stand.of_body Bd
  have e0 : s₁.heap = h0 := by rw [← hh, Bd.state]; rfl
  have N0 := Fr.nil n0
  refine Goes.out (Goes.by (fun tz kz => castTop (ef1_RII m ((w 1)) n ((1 : Int32))) kz) ?_)
  show Goes p e below (s₁.setTop (mkF m 0 #[.val (.ref (w 1)), .val (.int n), .val (.int (1 : Int32))] [])) _
  refine Goes.by (fun _ kz => XS.iloadN X0.here hx rfl (hb hby d1_0) rfl (XS.ifYes X0.here hx rfl (pc0 := 1) (pc' := 18) rfl (hb hby d1_1) rfl ((if0 _ _).trans (flt hn3).2.1) (by decide) (by decide) (XS.iloadN X0.here hx rfl (hb hby d1_18) rfl kz))) ?_
  show Goes p e below (s₁.setTop (mkF m 19 #[.val (.ref (w 1)), .val (.int n), .val (.int (1 : Int32))] [(.int n)])) _
  refine Goes.by (fun _ kz => XS.ifYes X0.here hx rfl (pc0 := 19) (pc' := 27) rfl (hb hby d1_19) rfl ((if0 _ _).trans (feq hn0).2) (by decide) (by decide) (XS.iloadN X0.here hx rfl (hb hby d1_27) rfl (XS.iconst X0.here hx rfl (hb hby d1_28) kz))) ?_
  show Goes p e below (s₁.setTop (mkF m 29 #[.val (.ref (w 1)), .val (.int n), .val (.int (1 : Int32))] [(.int (1 : Int32)), (.int n)])) _
  refine Goes.by (fun _ kz => XS.icmpYes X0.here hx rfl (pc0 := 29) (pc' := 48) rfl (hb hby d1_29) rfl (feq hn1).2 (by decide) (by decide) (XS.iloadN X0.here hx rfl (hb hby d1_48) rfl (XS.ifNo X0.here hx rfl (hb hby d1_49) rfl ((if0 _ _).trans (feq (by decide : ¬ ((1 : Int32) = (0 : Int32)))).1) kz))) ?_
  show Goes p e below (s₁.setTop (mkF m 52 #[.val (.ref (w 1)), .val (.int n), .val (.int (1 : Int32))] [])) _
  refine Goes.by (fun _ kz => XS.aloadN X0.here hx rfl (hb hby d1_52) rfl rfl kz) ?_
  obtain ⟨T140, X140, e140, st140⟩ := getF X0 hx hZ hown (host := "") (Or.inl (hw _ (List.mem_of_getElem? (i := 13) rfl))) Via.refl e0 P.2.2.2.2.2.2.2.2.2.2.2.2.2.2.2.2.2.2.2.1 (g := (mkF m 53 #[.val (.ref (w 1)), .val (.int n), .val (.int (1 : Int32))] [(.ref (w 1))])) rfl rfl (hb hby d1_53)
  refine Goes.by st140 ?_
  refine Goes.by (fun _ kz => XS.goto X140.here hx rfl (pc0 := 56) (pc' := 63) rfl (hb hby d1_56) (by decide) (by decide) kz) ?_
  show Goes p e below (T140.setTop (mkF m 63 #[.val (.ref (w 1)), .val (.int n), .val (.int (1 : Int32))] [(.int (1 : Int32))])) _
  obtain ⟨fs, hr, hrun, hended, hW, hsame⟩ := X140.leave (v := some (.int (1 : Int32))) (fun h => by rw [Bd.returns] at h; cases h)
  exact ⟨_, _, retN X140 hx (t := .boolean) Bd.returns (by simp) (hb hby d1_63) hr, hrun, hended, _, _, rfl, ⟨rfl, N0, e140⟩, ⟨_, rfl⟩, hW, hsame.mono (by decide) (by decide)⟩
set_option maxRecDepth 65536 in
set_option maxHeartbeats 40000000 in
theorem r1_47 (l : Launch) (Z : State) (a0 : Array Value) (hw : ∀ d ∈ tables_1, d.before a0 Z = true) (ws : List Jvm.Cond) (h0 : Heap) (n0 : Nat) (Z0 : n0 ≤ h0.size) (n : Int32) (w : Nat → Addr) (hn0 : ¬ (n = (0 : Int32))) (hn1 : ¬ (n = (1 : Int32))) (hn3 : ¬ (n < (0 : Int32))) (P : Pins Z h0 w) :
    MetFree l (⟨"com/example/entail/entail/model/Scope", "reaches", "(IZ)Z"⟩ : MethodName) (head1 (Jvm.Cond.code (⟨"com/example/entail/entail/model/Scope", "reaches", "(IZ)Z"⟩ : MethodName) prog_11_method_6_code 3 (some .boolean) :: ws) ({ frames := 0, cells := 0, slots := 0, locals := 0 } : Room)) (fun a U => a = #[(.ref (w 2)), (.int n), (.int (1 : Int32))] ∧ Z.Warmed39 U.vm ∧ U.heap = h0) (fun _ _ _ _ _ => True) (fun _ U o U' => ∃ v L, o = .returned v ∧ QP (some (.int (0 : Int32))) h0 n0 v U'.heap L ∧ FrameEnd U o U' L ({ frames := 0, cells := 0, slots := 0, locals := 0 } : Room).cells ({ frames := 0, cells := 0, slots := 0, locals := 0 } : Room).slots) := by
  refine MetFree.of_bodySF (plainFor_of_name pn0) hisR ?_
  intro p e s m args below meth c s₁ Bd hml0 hP hK
  obtain ⟨rfl, hZ, hh⟩ := hP
  have hx := Bd.exec
  have hby := Bd.bytes
  have hml : c.maxLocals = 3 := hml0
  have hown : s.vm.findClass "com/example/entail/entail/model/Scope" = some m.cls := findClass_of_methodNamed Bd.named
  have hnm := (name_of_methodNamed Bd.named Bd.method).1
  have X0 : Stand p l e ({ frames := 0, cells := 0, slots := 0, locals := 0 } : Room) s m #[(.ref (w 2)), (.int n), (.int (1 : Int32))] below meth c s₁ [] 0 0 := Stand.of_body Bd
  have e0 : s₁.heap = h0 := by rw [← hh, Bd.state]; rfl
  have N0 := Fr.nil n0
  refine Goes.out (Goes.by (fun tz kz => castTop (ef1_RII m ((w 2)) n ((1 : Int32))) kz) ?_)
  show Goes p e below (s₁.setTop (mkF m 0 #[.val (.ref (w 2)), .val (.int n), .val (.int (1 : Int32))] [])) _
  refine Goes.by (fun _ kz => XS.iloadN X0.here hx rfl (hb hby d1_0) rfl (XS.ifYes X0.here hx rfl (pc0 := 1) (pc' := 18) rfl (hb hby d1_1) rfl ((if0 _ _).trans (flt hn3).2.1) (by decide) (by decide) (XS.iloadN X0.here hx rfl (hb hby d1_18) rfl kz))) ?_
  show Goes p e below (s₁.setTop (mkF m 19 #[.val (.ref (w 2)), .val (.int n), .val (.int (1 : Int32))] [(.int n)])) _
  refine Goes.by (fun _ kz => XS.ifYes X0.here hx rfl (pc0 := 19) (pc' := 27) rfl (hb hby d1_19) rfl ((if0 _ _).trans (feq hn0).2) (by decide) (by decide) (XS.iloadN X0.here hx rfl (hb hby d1_27) rfl (XS.iconst X0.here hx rfl (hb hby d1_28) kz))) ?_
  show Goes p e below (s₁.setTop (mkF m 29 #[.val (.ref (w 2)), .val (.int n), .val (.int (1 : Int32))] [(.int (1 : Int32)), (.int n)])) _
  refine Goes.by (fun _ kz => XS.icmpYes X0.here hx rfl (pc0 := 29) (pc' := 48) rfl (hb hby d1_29) rfl (feq hn1).2 (by decide) (by decide) (XS.iloadN X0.here hx rfl (hb hby d1_48) rfl (XS.ifNo X0.here hx rfl (hb hby d1_49) rfl ((if0 _ _).trans (feq (by decide : ¬ ((1 : Int32) = (0 : Int32)))).1) kz))) ?_
  show Goes p e below (s₁.setTop (mkF m 52 #[.val (.ref (w 2)), .val (.int n), .val (.int (1 : Int32))] [])) _
  refine Goes.by (fun _ kz => XS.aloadN X0.here hx rfl (hb hby d1_52) rfl rfl kz) ?_
  obtain ⟨T143, X143, e143, st143⟩ := getF X0 hx hZ hown (host := "") (Or.inl (hw _ (List.mem_of_getElem? (i := 13) rfl))) Via.refl e0 P.2.2.2.2.2.2.2.2.2.2.2.2.2.2.2.2.2.2.2.2.1 (g := (mkF m 53 #[.val (.ref (w 2)), .val (.int n), .val (.int (1 : Int32))] [(.ref (w 2))])) rfl rfl (hb hby d1_53)
  refine Goes.by st143 ?_
  refine Goes.by (fun _ kz => XS.goto X143.here hx rfl (pc0 := 56) (pc' := 63) rfl (hb hby d1_56) (by decide) (by decide) kz) ?_
  show Goes p e below (T143.setTop (mkF m 63 #[.val (.ref (w 2)), .val (.int n), .val (.int (1 : Int32))] [(.int (0 : Int32))])) _
  obtain ⟨fs, hr, hrun, hended, hW, hsame⟩ := X143.leave (v := some (.int (0 : Int32))) (fun h => by rw [Bd.returns] at h; cases h)
  exact ⟨_, _, retN X143 hx (t := .boolean) Bd.returns (by simp) (hb hby d1_63) hr, hrun, hended, _, _, rfl, ⟨rfl, N0, e143⟩, ⟨_, rfl⟩, hW, hsame.mono (by decide) (by decide)⟩
set_option maxRecDepth 65536 in
set_option maxHeartbeats 40000000 in
theorem r1_48 (l : Launch) (Z : State) (a0 : Array Value) (hw : ∀ d ∈ tables_1, d.before a0 Z = true) (ws : List Jvm.Cond) (h0 : Heap) (n0 : Nat) (Z0 : n0 ≤ h0.size) (n : Int32) (w : Nat → Addr) (hn0 : ¬ (n = (0 : Int32))) (hn1 : ¬ (n = (1 : Int32))) (hn3 : ¬ (n < (0 : Int32))) (P : Pins Z h0 w) :
    MetFree l (⟨"com/example/entail/entail/model/Scope", "reaches", "(IZ)Z"⟩ : MethodName) (head1 (Jvm.Cond.code (⟨"com/example/entail/entail/model/Scope", "reaches", "(IZ)Z"⟩ : MethodName) prog_11_method_6_code 3 (some .boolean) :: ws) ({ frames := 0, cells := 0, slots := 0, locals := 0 } : Room)) (fun a U => a = #[(.ref (w 6)), (.int n), (.int (1 : Int32))] ∧ Z.Warmed39 U.vm ∧ U.heap = h0) (fun _ _ _ _ _ => True) (fun _ U o U' => ∃ v L, o = .returned v ∧ QP (some (.int (1 : Int32))) h0 n0 v U'.heap L ∧ FrameEnd U o U' L ({ frames := 0, cells := 0, slots := 0, locals := 0 } : Room).cells ({ frames := 0, cells := 0, slots := 0, locals := 0 } : Room).slots) := by
  refine MetFree.of_bodySF (plainFor_of_name pn0) hisR ?_
  intro p e s m args below meth c s₁ Bd hml0 hP hK
  obtain ⟨rfl, hZ, hh⟩ := hP
  have hx := Bd.exec
  have hby := Bd.bytes
  have hml : c.maxLocals = 3 := hml0
  have hown : s.vm.findClass "com/example/entail/entail/model/Scope" = some m.cls := findClass_of_methodNamed Bd.named
  have hnm := (name_of_methodNamed Bd.named Bd.method).1
  have X0 : Stand p l e ({ frames := 0, cells := 0, slots := 0, locals := 0 } : Room) s m #[(.ref (w 6)), (.int n), (.int (1 : Int32))] below meth c s₁ [] 0 0 := Stand.of_body Bd
  have e0 : s₁.heap = h0 := by rw [← hh, Bd.state]; rfl
  have N0 := Fr.nil n0
  refine Goes.out (Goes.by (fun tz kz => castTop (ef1_RII m ((w 6)) n ((1 : Int32))) kz) ?_)
  show Goes p e below (s₁.setTop (mkF m 0 #[.val (.ref (w 6)), .val (.int n), .val (.int (1 : Int32))] [])) _
  refine Goes.by (fun _ kz => XS.iloadN X0.here hx rfl (hb hby d1_0) rfl (XS.ifYes X0.here hx rfl (pc0 := 1) (pc' := 18) rfl (hb hby d1_1) rfl ((if0 _ _).trans (flt hn3).2.1) (by decide) (by decide) (XS.iloadN X0.here hx rfl (hb hby d1_18) rfl kz))) ?_
  show Goes p e below (s₁.setTop (mkF m 19 #[.val (.ref (w 6)), .val (.int n), .val (.int (1 : Int32))] [(.int n)])) _
  refine Goes.by (fun _ kz => XS.ifYes X0.here hx rfl (pc0 := 19) (pc' := 27) rfl (hb hby d1_19) rfl ((if0 _ _).trans (feq hn0).2) (by decide) (by decide) (XS.iloadN X0.here hx rfl (hb hby d1_27) rfl (XS.iconst X0.here hx rfl (hb hby d1_28) kz))) ?_
  show Goes p e below (s₁.setTop (mkF m 29 #[.val (.ref (w 6)), .val (.int n), .val (.int (1 : Int32))] [(.int (1 : Int32)), (.int n)])) _
  refine Goes.by (fun _ kz => XS.icmpYes X0.here hx rfl (pc0 := 29) (pc' := 48) rfl (hb hby d1_29) rfl (feq hn1).2 (by decide) (by decide) (XS.iloadN X0.here hx rfl (hb hby d1_48) rfl (XS.ifNo X0.here hx rfl (hb hby d1_49) rfl ((if0 _ _).trans (feq (by decide : ¬ ((1 : Int32) = (0 : Int32)))).1) kz))) ?_
  show Goes p e below (s₁.setTop (mkF m 52 #[.val (.ref (w 6)), .val (.int n), .val (.int (1 : Int32))] [])) _
  refine Goes.by (fun _ kz => XS.aloadN X0.here hx rfl (hb hby d1_52) rfl rfl kz) ?_
  obtain ⟨T146, X146, e146, st146⟩ := getF X0 hx hZ hown (host := "") (Or.inl (hw _ (List.mem_of_getElem? (i := 13) rfl))) Via.refl e0 P.2.2.2.2.2.2.2.2.2.2.2.2.2.2.2.2.2.2.2.2.2.2.2.2.2.2.1 (g := (mkF m 53 #[.val (.ref (w 6)), .val (.int n), .val (.int (1 : Int32))] [(.ref (w 6))])) rfl rfl (hb hby d1_53)
  refine Goes.by st146 ?_
  refine Goes.by (fun _ kz => XS.goto X146.here hx rfl (pc0 := 56) (pc' := 63) rfl (hb hby d1_56) (by decide) (by decide) kz) ?_
  show Goes p e below (T146.setTop (mkF m 63 #[.val (.ref (w 6)), .val (.int n), .val (.int (1 : Int32))] [(.int (1 : Int32))])) _
  obtain ⟨fs, hr, hrun, hended, hW, hsame⟩ := X146.leave (v := some (.int (1 : Int32))) (fun h => by rw [Bd.returns] at h; cases h)
  exact ⟨_, _, retN X146 hx (t := .boolean) Bd.returns (by simp) (hb hby d1_63) hr, hrun, hended, _, _, rfl, ⟨rfl, N0, e146⟩, ⟨_, rfl⟩, hW, hsame.mono (by decide) (by decide)⟩
set_option maxRecDepth 65536 in
set_option maxHeartbeats 40000000 in
theorem r1_49 (l : Launch) (Z : State) (a0 : Array Value) (hw : ∀ d ∈ tables_1, d.before a0 Z = true) (ws : List Jvm.Cond) (h0 : Heap) (n0 : Nat) (Z0 : n0 ≤ h0.size) (n : Int32) (w : Nat → Addr) (hn0 : ¬ (n = (0 : Int32))) (hn1 : ¬ (n = (1 : Int32))) (hn3 : ¬ (n < (0 : Int32))) (P : Pins Z h0 w) :
    MetFree l (⟨"com/example/entail/entail/model/Scope", "reaches", "(IZ)Z"⟩ : MethodName) (head1 (Jvm.Cond.code (⟨"com/example/entail/entail/model/Scope", "reaches", "(IZ)Z"⟩ : MethodName) prog_11_method_6_code 3 (some .boolean) :: ws) ({ frames := 0, cells := 0, slots := 0, locals := 0 } : Room)) (fun a U => a = #[(.ref (w 7)), (.int n), (.int (1 : Int32))] ∧ Z.Warmed39 U.vm ∧ U.heap = h0) (fun _ _ _ _ _ => True) (fun _ U o U' => ∃ v L, o = .returned v ∧ QP (some (.int (1 : Int32))) h0 n0 v U'.heap L ∧ FrameEnd U o U' L ({ frames := 0, cells := 0, slots := 0, locals := 0 } : Room).cells ({ frames := 0, cells := 0, slots := 0, locals := 0 } : Room).slots) := by
  refine MetFree.of_bodySF (plainFor_of_name pn0) hisR ?_
  intro p e s m args below meth c s₁ Bd hml0 hP hK
  obtain ⟨rfl, hZ, hh⟩ := hP
  have hx := Bd.exec
  have hby := Bd.bytes
  have hml : c.maxLocals = 3 := hml0
  have hown : s.vm.findClass "com/example/entail/entail/model/Scope" = some m.cls := findClass_of_methodNamed Bd.named
  have hnm := (name_of_methodNamed Bd.named Bd.method).1
  have X0 : Stand p l e ({ frames := 0, cells := 0, slots := 0, locals := 0 } : Room) s m #[(.ref (w 7)), (.int n), (.int (1 : Int32))] below meth c s₁ [] 0 0 := Stand.of_body Bd
  have e0 : s₁.heap = h0 := by rw [← hh, Bd.state]; rfl
  have N0 := Fr.nil n0
  refine Goes.out (Goes.by (fun tz kz => castTop (ef1_RII m ((w 7)) n ((1 : Int32))) kz) ?_)
  show Goes p e below (s₁.setTop (mkF m 0 #[.val (.ref (w 7)), .val (.int n), .val (.int (1 : Int32))] [])) _
  refine Goes.by (fun _ kz => XS.iloadN X0.here hx rfl (hb hby d1_0) rfl (XS.ifYes X0.here hx rfl (pc0 := 1) (pc' := 18) rfl (hb hby d1_1) rfl ((if0 _ _).trans (flt hn3).2.1) (by decide) (by decide) (XS.iloadN X0.here hx rfl (hb hby d1_18) rfl kz))) ?_
  show Goes p e below (s₁.setTop (mkF m 19 #[.val (.ref (w 7)), .val (.int n), .val (.int (1 : Int32))] [(.int n)])) _
  refine Goes.by (fun _ kz => XS.ifYes X0.here hx rfl (pc0 := 19) (pc' := 27) rfl (hb hby d1_19) rfl ((if0 _ _).trans (feq hn0).2) (by decide) (by decide) (XS.iloadN X0.here hx rfl (hb hby d1_27) rfl (XS.iconst X0.here hx rfl (hb hby d1_28) kz))) ?_
  show Goes p e below (s₁.setTop (mkF m 29 #[.val (.ref (w 7)), .val (.int n), .val (.int (1 : Int32))] [(.int (1 : Int32)), (.int n)])) _
  refine Goes.by (fun _ kz => XS.icmpYes X0.here hx rfl (pc0 := 29) (pc' := 48) rfl (hb hby d1_29) rfl (feq hn1).2 (by decide) (by decide) (XS.iloadN X0.here hx rfl (hb hby d1_48) rfl (XS.ifNo X0.here hx rfl (hb hby d1_49) rfl ((if0 _ _).trans (feq (by decide : ¬ ((1 : Int32) = (0 : Int32)))).1) kz))) ?_
  show Goes p e below (s₁.setTop (mkF m 52 #[.val (.ref (w 7)), .val (.int n), .val (.int (1 : Int32))] [])) _
  refine Goes.by (fun _ kz => XS.aloadN X0.here hx rfl (hb hby d1_52) rfl rfl kz) ?_
  obtain ⟨T149, X149, e149, st149⟩ := getF X0 hx hZ hown (host := "") (Or.inl (hw _ (List.mem_of_getElem? (i := 13) rfl))) Via.refl e0 P.2.2.2.2.2.2.2.2.2.2.2.2.2.2.2.2.2.2.2.2.2.2.2.2.2.2.2.2.2.2.2.2.1 (g := (mkF m 53 #[.val (.ref (w 7)), .val (.int n), .val (.int (1 : Int32))] [(.ref (w 7))])) rfl rfl (hb hby d1_53)
  refine Goes.by st149 ?_
  refine Goes.by (fun _ kz => XS.goto X149.here hx rfl (pc0 := 56) (pc' := 63) rfl (hb hby d1_56) (by decide) (by decide) kz) ?_
  show Goes p e below (T149.setTop (mkF m 63 #[.val (.ref (w 7)), .val (.int n), .val (.int (1 : Int32))] [(.int (1 : Int32))])) _
  obtain ⟨fs, hr, hrun, hended, hW, hsame⟩ := X149.leave (v := some (.int (1 : Int32))) (fun h => by rw [Bd.returns] at h; cases h)
  exact ⟨_, _, retN X149 hx (t := .boolean) Bd.returns (by simp) (hb hby d1_63) hr, hrun, hended, _, _, rfl, ⟨rfl, N0, e149⟩, ⟨_, rfl⟩, hW, hsame.mono (by decide) (by decide)⟩
set_option maxRecDepth 65536 in
set_option maxHeartbeats 40000000 in
theorem r1_50 (l : Launch) (Z : State) (a0 : Array Value) (hw : ∀ d ∈ tables_1, d.before a0 Z = true) (ws : List Jvm.Cond) (h0 : Heap) (n0 : Nat) (Z0 : n0 ≤ h0.size) (n : Int32) (w : Nat → Addr) (hn0 : ¬ (n = (0 : Int32))) (hn1 : ¬ (n = (1 : Int32))) (hn3 : ¬ (n < (0 : Int32))) (P : Pins Z h0 w) :
    MetFree l (⟨"com/example/entail/entail/model/Scope", "reaches", "(IZ)Z"⟩ : MethodName) (head1 (Jvm.Cond.code (⟨"com/example/entail/entail/model/Scope", "reaches", "(IZ)Z"⟩ : MethodName) prog_11_method_6_code 3 (some .boolean) :: ws) ({ frames := 0, cells := 0, slots := 0, locals := 0 } : Room)) (fun a U => a = #[(.ref (w 8)), (.int n), (.int (1 : Int32))] ∧ Z.Warmed39 U.vm ∧ U.heap = h0) (fun _ _ _ _ _ => True) (fun _ U o U' => ∃ v L, o = .returned v ∧ QP (some (.int (0 : Int32))) h0 n0 v U'.heap L ∧ FrameEnd U o U' L ({ frames := 0, cells := 0, slots := 0, locals := 0 } : Room).cells ({ frames := 0, cells := 0, slots := 0, locals := 0 } : Room).slots) := by
  refine MetFree.of_bodySF (plainFor_of_name pn0) hisR ?_
  intro p e s m args below meth c s₁ Bd hml0 hP hK
  obtain ⟨rfl, hZ, hh⟩ := hP
  have hx := Bd.exec
  have hby := Bd.bytes
  have hml : c.maxLocals = 3 := hml0
  have hown : s.vm.findClass "com/example/entail/entail/model/Scope" = some m.cls := findClass_of_methodNamed Bd.named
  have hnm := (name_of_methodNamed Bd.named Bd.method).1
  have X0 : Stand p l e ({ frames := 0, cells := 0, slots := 0, locals := 0 } : Room) s m #[(.ref (w 8)), (.int n), (.int (1 : Int32))] below meth c s₁ [] 0 0 := Stand.of_body Bd
  have e0 : s₁.heap = h0 := by rw [← hh, Bd.state]; rfl
  have N0 := Fr.nil n0
  refine Goes.out (Goes.by (fun tz kz => castTop (ef1_RII m ((w 8)) n ((1 : Int32))) kz) ?_)
  show Goes p e below (s₁.setTop (mkF m 0 #[.val (.ref (w 8)), .val (.int n), .val (.int (1 : Int32))] [])) _
  refine Goes.by (fun _ kz => XS.iloadN X0.here hx rfl (hb hby d1_0) rfl (XS.ifYes X0.here hx rfl (pc0 := 1) (pc' := 18) rfl (hb hby d1_1) rfl ((if0 _ _).trans (flt hn3).2.1) (by decide) (by decide) (XS.iloadN X0.here hx rfl (hb hby d1_18) rfl kz))) ?_
  show Goes p e below (s₁.setTop (mkF m 19 #[.val (.ref (w 8)), .val (.int n), .val (.int (1 : Int32))] [(.int n)])) _
  refine Goes.by (fun _ kz => XS.ifYes X0.here hx rfl (pc0 := 19) (pc' := 27) rfl (hb hby d1_19) rfl ((if0 _ _).trans (feq hn0).2) (by decide) (by decide) (XS.iloadN X0.here hx rfl (hb hby d1_27) rfl (XS.iconst X0.here hx rfl (hb hby d1_28) kz))) ?_
  show Goes p e below (s₁.setTop (mkF m 29 #[.val (.ref (w 8)), .val (.int n), .val (.int (1 : Int32))] [(.int (1 : Int32)), (.int n)])) _
  refine Goes.by (fun _ kz => XS.icmpYes X0.here hx rfl (pc0 := 29) (pc' := 48) rfl (hb hby d1_29) rfl (feq hn1).2 (by decide) (by decide) (XS.iloadN X0.here hx rfl (hb hby d1_48) rfl (XS.ifNo X0.here hx rfl (hb hby d1_49) rfl ((if0 _ _).trans (feq (by decide : ¬ ((1 : Int32) = (0 : Int32)))).1) kz))) ?_
  show Goes p e below (s₁.setTop (mkF m 52 #[.val (.ref (w 8)), .val (.int n), .val (.int (1 : Int32))] [])) _
  refine Goes.by (fun _ kz => XS.aloadN X0.here hx rfl (hb hby d1_52) rfl rfl kz) ?_
  obtain ⟨T152, X152, e152, st152⟩ := getF X0 hx hZ hown (host := "") (Or.inl (hw _ (List.mem_of_getElem? (i := 13) rfl))) Via.refl e0 P.2.2.2.2.2.2.2.2.2.2.2.2.2.2.2.2.2.2.2.2.2.2.2.2.2.2.2.2.2.2.2.2.2.2.2.1 (g := (mkF m 53 #[.val (.ref (w 8)), .val (.int n), .val (.int (1 : Int32))] [(.ref (w 8))])) rfl rfl (hb hby d1_53)
  refine Goes.by st152 ?_
  refine Goes.by (fun _ kz => XS.goto X152.here hx rfl (pc0 := 56) (pc' := 63) rfl (hb hby d1_56) (by decide) (by decide) kz) ?_
  show Goes p e below (T152.setTop (mkF m 63 #[.val (.ref (w 8)), .val (.int n), .val (.int (1 : Int32))] [(.int (0 : Int32))])) _
  obtain ⟨fs, hr, hrun, hended, hW, hsame⟩ := X152.leave (v := some (.int (0 : Int32))) (fun h => by rw [Bd.returns] at h; cases h)
  exact ⟨_, _, retN X152 hx (t := .boolean) Bd.returns (by simp) (hb hby d1_63) hr, hrun, hended, _, _, rfl, ⟨rfl, N0, e152⟩, ⟨_, rfl⟩, hW, hsame.mono (by decide) (by decide)⟩
set_option maxRecDepth 65536 in
set_option maxHeartbeats 40000000 in
theorem r1_51 (l : Launch) (Z : State) (a0 : Array Value) (hw : ∀ d ∈ tables_1, d.before a0 Z = true) (ws : List Jvm.Cond) (h0 : Heap) (n0 : Nat) (Z0 : n0 ≤ h0.size) (n : Int32) (w : Nat → Addr) (hn0 : ¬ (n = (0 : Int32))) (hn1 : ¬ (n = (1 : Int32))) (hn3 : ¬ (n < (0 : Int32))) (P : Pins Z h0 w) :
    MetFree l (⟨"com/example/entail/entail/model/Scope", "reaches", "(IZ)Z"⟩ : MethodName) (head1 (Jvm.Cond.code (⟨"com/example/entail/entail/model/Scope", "reaches", "(IZ)Z"⟩ : MethodName) prog_11_method_6_code 3 (some .boolean) :: ws) ({ frames := 0, cells := 0, slots := 0, locals := 0 } : Room)) (fun a U => a = #[(.ref (w 4)), (.int n), (.int (1 : Int32))] ∧ Z.Warmed39 U.vm ∧ U.heap = h0) (fun _ _ _ _ _ => True) (fun _ U o U' => ∃ v L, o = .returned v ∧ QP (some (.int (0 : Int32))) h0 n0 v U'.heap L ∧ FrameEnd U o U' L ({ frames := 0, cells := 0, slots := 0, locals := 0 } : Room).cells ({ frames := 0, cells := 0, slots := 0, locals := 0 } : Room).slots) := by
  refine MetFree.of_bodySF (plainFor_of_name pn0) hisR ?_
  intro p e s m args below meth c s₁ Bd hml0 hP hK
  obtain ⟨rfl, hZ, hh⟩ := hP
  have hx := Bd.exec
  have hby := Bd.bytes
  have hml : c.maxLocals = 3 := hml0
  have hown : s.vm.findClass "com/example/entail/entail/model/Scope" = some m.cls := findClass_of_methodNamed Bd.named
  have hnm := (name_of_methodNamed Bd.named Bd.method).1
  have X0 : Stand p l e ({ frames := 0, cells := 0, slots := 0, locals := 0 } : Room) s m #[(.ref (w 4)), (.int n), (.int (1 : Int32))] below meth c s₁ [] 0 0 := Stand.of_body Bd
  have e0 : s₁.heap = h0 := by rw [← hh, Bd.state]; rfl
  have N0 := Fr.nil n0
  refine Goes.out (Goes.by (fun tz kz => castTop (ef1_RII m ((w 4)) n ((1 : Int32))) kz) ?_)
  show Goes p e below (s₁.setTop (mkF m 0 #[.val (.ref (w 4)), .val (.int n), .val (.int (1 : Int32))] [])) _
  refine Goes.by (fun _ kz => XS.iloadN X0.here hx rfl (hb hby d1_0) rfl (XS.ifYes X0.here hx rfl (pc0 := 1) (pc' := 18) rfl (hb hby d1_1) rfl ((if0 _ _).trans (flt hn3).2.1) (by decide) (by decide) (XS.iloadN X0.here hx rfl (hb hby d1_18) rfl kz))) ?_
  show Goes p e below (s₁.setTop (mkF m 19 #[.val (.ref (w 4)), .val (.int n), .val (.int (1 : Int32))] [(.int n)])) _
  refine Goes.by (fun _ kz => XS.ifYes X0.here hx rfl (pc0 := 19) (pc' := 27) rfl (hb hby d1_19) rfl ((if0 _ _).trans (feq hn0).2) (by decide) (by decide) (XS.iloadN X0.here hx rfl (hb hby d1_27) rfl (XS.iconst X0.here hx rfl (hb hby d1_28) kz))) ?_
  show Goes p e below (s₁.setTop (mkF m 29 #[.val (.ref (w 4)), .val (.int n), .val (.int (1 : Int32))] [(.int (1 : Int32)), (.int n)])) _
  refine Goes.by (fun _ kz => XS.icmpYes X0.here hx rfl (pc0 := 29) (pc' := 48) rfl (hb hby d1_29) rfl (feq hn1).2 (by decide) (by decide) (XS.iloadN X0.here hx rfl (hb hby d1_48) rfl (XS.ifNo X0.here hx rfl (hb hby d1_49) rfl ((if0 _ _).trans (feq (by decide : ¬ ((1 : Int32) = (0 : Int32)))).1) kz))) ?_
  show Goes p e below (s₁.setTop (mkF m 52 #[.val (.ref (w 4)), .val (.int n), .val (.int (1 : Int32))] [])) _
  refine Goes.by (fun _ kz => XS.aloadN X0.here hx rfl (hb hby d1_52) rfl rfl kz) ?_
  obtain ⟨T155, X155, e155, st155⟩ := getF X0 hx hZ hown (host := "") (Or.inl (hw _ (List.mem_of_getElem? (i := 13) rfl))) Via.refl e0 P.2.2.2.2.2.2.2.2.2.2.2.2.2.2.2.2.2.2.2.2.2.2.2.1 (g := (mkF m 53 #[.val (.ref (w 4)), .val (.int n), .val (.int (1 : Int32))] [(.ref (w 4))])) rfl rfl (hb hby d1_53)
  refine Goes.by st155 ?_
  refine Goes.by (fun _ kz => XS.goto X155.here hx rfl (pc0 := 56) (pc' := 63) rfl (hb hby d1_56) (by decide) (by decide) kz) ?_
  show Goes p e below (T155.setTop (mkF m 63 #[.val (.ref (w 4)), .val (.int n), .val (.int (1 : Int32))] [(.int (0 : Int32))])) _
  obtain ⟨fs, hr, hrun, hended, hW, hsame⟩ := X155.leave (v := some (.int (0 : Int32))) (fun h => by rw [Bd.returns] at h; cases h)
  exact ⟨_, _, retN X155 hx (t := .boolean) Bd.returns (by simp) (hb hby d1_63) hr, hrun, hended, _, _, rfl, ⟨rfl, N0, e155⟩, ⟨_, rfl⟩, hW, hsame.mono (by decide) (by decide)⟩
set_option maxRecDepth 65536 in
set_option maxHeartbeats 40000000 in
theorem r1_52 (l : Launch) (Z : State) (a0 : Array Value) (hw : ∀ d ∈ tables_1, d.before a0 Z = true) (ws : List Jvm.Cond) (h0 : Heap) (n0 : Nat) (Z0 : n0 ≤ h0.size) (n : Int32) (w : Nat → Addr) (hn0 : ¬ (n = (0 : Int32))) (hn1 : ¬ (n = (1 : Int32))) (hn3 : ¬ (n < (0 : Int32))) (P : Pins Z h0 w) :
    MetFree l (⟨"com/example/entail/entail/model/Scope", "reaches", "(IZ)Z"⟩ : MethodName) (head1 (Jvm.Cond.code (⟨"com/example/entail/entail/model/Scope", "reaches", "(IZ)Z"⟩ : MethodName) prog_11_method_6_code 3 (some .boolean) :: ws) ({ frames := 0, cells := 0, slots := 0, locals := 0 } : Room)) (fun a U => a = #[(.ref (w 5)), (.int n), (.int (1 : Int32))] ∧ Z.Warmed39 U.vm ∧ U.heap = h0) (fun _ _ _ _ _ => True) (fun _ U o U' => ∃ v L, o = .returned v ∧ QP (some (.int (0 : Int32))) h0 n0 v U'.heap L ∧ FrameEnd U o U' L ({ frames := 0, cells := 0, slots := 0, locals := 0 } : Room).cells ({ frames := 0, cells := 0, slots := 0, locals := 0 } : Room).slots) := by
  refine MetFree.of_bodySF (plainFor_of_name pn0) hisR ?_
  intro p e s m args below meth c s₁ Bd hml0 hP hK
  obtain ⟨rfl, hZ, hh⟩ := hP
  have hx := Bd.exec
  have hby := Bd.bytes
  have hml : c.maxLocals = 3 := hml0
  have hown : s.vm.findClass "com/example/entail/entail/model/Scope" = some m.cls := findClass_of_methodNamed Bd.named
  have hnm := (name_of_methodNamed Bd.named Bd.method).1
  have X0 : Stand p l e ({ frames := 0, cells := 0, slots := 0, locals := 0 } : Room) s m #[(.ref (w 5)), (.int n), (.int (1 : Int32))] below meth c s₁ [] 0 0 := Stand.of_body Bd
  have e0 : s₁.heap = h0 := by rw [← hh, Bd.state]; rfl
  have N0 := Fr.nil n0
  refine Goes.out (Goes.by (fun tz kz => castTop (ef1_RII m ((w 5)) n ((1 : Int32))) kz) ?_)
  show Goes p e below (s₁.setTop (mkF m 0 #[.val (.ref (w 5)), .val (.int n), .val (.int (1 : Int32))] [])) _
  refine Goes.by (fun _ kz => XS.iloadN X0.here hx rfl (hb hby d1_0) rfl (XS.ifYes X0.here hx rfl (pc0 := 1) (pc' := 18) rfl (hb hby d1_1) rfl ((if0 _ _).trans (flt hn3).2.1) (by decide) (by decide) (XS.iloadN X0.here hx rfl (hb hby d1_18) rfl kz))) ?_
  show Goes p e below (s₁.setTop (mkF m 19 #[.val (.ref (w 5)), .val (.int n), .val (.int (1 : Int32))] [(.int n)])) _
  refine Goes.by (fun _ kz => XS.ifYes X0.here hx rfl (pc0 := 19) (pc' := 27) rfl (hb hby d1_19) rfl ((if0 _ _).trans (feq hn0).2) (by decide) (by decide) (XS.iloadN X0.here hx rfl (hb hby d1_27) rfl (XS.iconst X0.here hx rfl (hb hby d1_28) kz))) ?_
  show Goes p e below (s₁.setTop (mkF m 29 #[.val (.ref (w 5)), .val (.int n), .val (.int (1 : Int32))] [(.int (1 : Int32)), (.int n)])) _
  refine Goes.by (fun _ kz => XS.icmpYes X0.here hx rfl (pc0 := 29) (pc' := 48) rfl (hb hby d1_29) rfl (feq hn1).2 (by decide) (by decide) (XS.iloadN X0.here hx rfl (hb hby d1_48) rfl (XS.ifNo X0.here hx rfl (hb hby d1_49) rfl ((if0 _ _).trans (feq (by decide : ¬ ((1 : Int32) = (0 : Int32)))).1) kz))) ?_
  show Goes p e below (s₁.setTop (mkF m 52 #[.val (.ref (w 5)), .val (.int n), .val (.int (1 : Int32))] [])) _
  refine Goes.by (fun _ kz => XS.aloadN X0.here hx rfl (hb hby d1_52) rfl rfl kz) ?_
  obtain ⟨T158, X158, e158, st158⟩ := getF X0 hx hZ hown (host := "") (Or.inl (hw _ (List.mem_of_getElem? (i := 13) rfl))) Via.refl e0 P.2.2.2.2.2.2.2.2.2.2.2.2.2.2.2.2.2.2.2.2.2.2.2.2.1 (g := (mkF m 53 #[.val (.ref (w 5)), .val (.int n), .val (.int (1 : Int32))] [(.ref (w 5))])) rfl rfl (hb hby d1_53)
  refine Goes.by st158 ?_
  refine Goes.by (fun _ kz => XS.goto X158.here hx rfl (pc0 := 56) (pc' := 63) rfl (hb hby d1_56) (by decide) (by decide) kz) ?_
  show Goes p e below (T158.setTop (mkF m 63 #[.val (.ref (w 5)), .val (.int n), .val (.int (1 : Int32))] [(.int (0 : Int32))])) _
  obtain ⟨fs, hr, hrun, hended, hW, hsame⟩ := X158.leave (v := some (.int (0 : Int32))) (fun h => by rw [Bd.returns] at h; cases h)
  exact ⟨_, _, retN X158 hx (t := .boolean) Bd.returns (by simp) (hb hby d1_63) hr, hrun, hended, _, _, rfl, ⟨rfl, N0, e158⟩, ⟨_, rfl⟩, hW, hsame.mono (by decide) (by decide)⟩
set_option maxRecDepth 65536 in
set_option maxHeartbeats 40000000 in
theorem r1_53 (l : Launch) (Z : State) (a0 : Array Value) (hw : ∀ d ∈ tables_1, d.before a0 Z = true) (ws : List Jvm.Cond) (h0 : Heap) (n0 : Nat) (Z0 : n0 ≤ h0.size) (n : Int32) (w : Nat → Addr) (hn0 : ¬ (n = (0 : Int32))) (hn1 : ¬ (n = (1 : Int32))) (hn3 : ¬ (n < (0 : Int32))) (P : Pins Z h0 w) :
    MetFree l (⟨"com/example/entail/entail/model/Scope", "reaches", "(IZ)Z"⟩ : MethodName) (head1 (Jvm.Cond.code (⟨"com/example/entail/entail/model/Scope", "reaches", "(IZ)Z"⟩ : MethodName) prog_11_method_6_code 3 (some .boolean) :: ws) ({ frames := 0, cells := 0, slots := 0, locals := 0 } : Room)) (fun a U => a = #[(.ref (w 3)), (.int n), (.int (1 : Int32))] ∧ Z.Warmed39 U.vm ∧ U.heap = h0) (fun _ _ _ _ _ => True) (fun _ U o U' => ∃ v L, o = .returned v ∧ QP (some (.int (0 : Int32))) h0 n0 v U'.heap L ∧ FrameEnd U o U' L ({ frames := 0, cells := 0, slots := 0, locals := 0 } : Room).cells ({ frames := 0, cells := 0, slots := 0, locals := 0 } : Room).slots) := by
  refine MetFree.of_bodySF (plainFor_of_name pn0) hisR ?_
  intro p e s m args below meth c s₁ Bd hml0 hP hK
  obtain ⟨rfl, hZ, hh⟩ := hP
  have hx := Bd.exec
  have hby := Bd.bytes
  have hml : c.maxLocals = 3 := hml0
  have hown : s.vm.findClass "com/example/entail/entail/model/Scope" = some m.cls := findClass_of_methodNamed Bd.named
  have hnm := (name_of_methodNamed Bd.named Bd.method).1
  have X0 : Stand p l e ({ frames := 0, cells := 0, slots := 0, locals := 0 } : Room) s m #[(.ref (w 3)), (.int n), (.int (1 : Int32))] below meth c s₁ [] 0 0 := Stand.of_body Bd
  have e0 : s₁.heap = h0 := by rw [← hh, Bd.state]; rfl
  have N0 := Fr.nil n0
  refine Goes.out (Goes.by (fun tz kz => castTop (ef1_RII m ((w 3)) n ((1 : Int32))) kz) ?_)
  show Goes p e below (s₁.setTop (mkF m 0 #[.val (.ref (w 3)), .val (.int n), .val (.int (1 : Int32))] [])) _
  refine Goes.by (fun _ kz => XS.iloadN X0.here hx rfl (hb hby d1_0) rfl (XS.ifYes X0.here hx rfl (pc0 := 1) (pc' := 18) rfl (hb hby d1_1) rfl ((if0 _ _).trans (flt hn3).2.1) (by decide) (by decide) (XS.iloadN X0.here hx rfl (hb hby d1_18) rfl kz))) ?_
  show Goes p e below (s₁.setTop (mkF m 19 #[.val (.ref (w 3)), .val (.int n), .val (.int (1 : Int32))] [(.int n)])) _
  refine Goes.by (fun _ kz => XS.ifYes X0.here hx rfl (pc0 := 19) (pc' := 27) rfl (hb hby d1_19) rfl ((if0 _ _).trans (feq hn0).2) (by decide) (by decide) (XS.iloadN X0.here hx rfl (hb hby d1_27) rfl (XS.iconst X0.here hx rfl (hb hby d1_28) kz))) ?_
  show Goes p e below (s₁.setTop (mkF m 29 #[.val (.ref (w 3)), .val (.int n), .val (.int (1 : Int32))] [(.int (1 : Int32)), (.int n)])) _
  refine Goes.by (fun _ kz => XS.icmpYes X0.here hx rfl (pc0 := 29) (pc' := 48) rfl (hb hby d1_29) rfl (feq hn1).2 (by decide) (by decide) (XS.iloadN X0.here hx rfl (hb hby d1_48) rfl (XS.ifNo X0.here hx rfl (hb hby d1_49) rfl ((if0 _ _).trans (feq (by decide : ¬ ((1 : Int32) = (0 : Int32)))).1) kz))) ?_
  show Goes p e below (s₁.setTop (mkF m 52 #[.val (.ref (w 3)), .val (.int n), .val (.int (1 : Int32))] [])) _
  refine Goes.by (fun _ kz => XS.aloadN X0.here hx rfl (hb hby d1_52) rfl rfl kz) ?_
  obtain ⟨T161, X161, e161, st161⟩ := getF X0 hx hZ hown (host := "") (Or.inl (hw _ (List.mem_of_getElem? (i := 13) rfl))) Via.refl e0 P.2.2.2.2.2.2.2.2.2.2.2.2.2.2.2.2.2.2.2.2.2.1 (g := (mkF m 53 #[.val (.ref (w 3)), .val (.int n), .val (.int (1 : Int32))] [(.ref (w 3))])) rfl rfl (hb hby d1_53)
  refine Goes.by st161 ?_
  refine Goes.by (fun _ kz => XS.goto X161.here hx rfl (pc0 := 56) (pc' := 63) rfl (hb hby d1_56) (by decide) (by decide) kz) ?_
  show Goes p e below (T161.setTop (mkF m 63 #[.val (.ref (w 3)), .val (.int n), .val (.int (1 : Int32))] [(.int (0 : Int32))])) _
  obtain ⟨fs, hr, hrun, hended, hW, hsame⟩ := X161.leave (v := some (.int (0 : Int32))) (fun h => by rw [Bd.returns] at h; cases h)
  exact ⟨_, _, retN X161 hx (t := .boolean) Bd.returns (by simp) (hb hby d1_63) hr, hrun, hended, _, _, rfl, ⟨rfl, N0, e161⟩, ⟨_, rfl⟩, hW, hsame.mono (by decide) (by decide)⟩
set_option maxRecDepth 65536 in
set_option maxHeartbeats 40000000 in
theorem rm0 (l : Launch) (Z : State) (a0 : Array Value) (hw : ∀ d ∈ tables_1, d.before a0 Z = true) (ws : List Jvm.Cond) (h0 : Heap) (n0 : Nat) (Z0 : n0 ≤ h0.size) (p1 : Int32) (p2 : Int32) (p3 : Int32) (w : Nat → Addr) (P : Pins Z h0 w) :
    MetFree l x (head1 (Jvm.Cond.code x code maxLocals ret :: ws) room_1) (fun a U => a = #[(.int p1), (.int p2), (.int p3)] ∧ Z.Warmed39 U.vm ∧ U.heap = h0) (fun _ _ _ _ _ => True) (fun _ U o U' => ∃ v L, o = .returned v ∧ QL n0 v U'.heap L ∧ FrameEnd U o U' L 0 0) := by
  refine MetFree.of_bodySF (plainFor_of_name pn1) hisR ?_
  intro p e s m args below meth c s₁ Bd hml0 hP hK
  obtain ⟨rfl, hZ, hh⟩ := hP
  have hx := Bd.exec
  have hby := Bd.bytes
  have hml : c.maxLocals = 11 := hml0
  have hown : s.vm.findClass "com/example/entail/entail/model/ScopeReachesPinLaw" = some m.cls := findClass_of_methodNamed Bd.named
  have hnm := (name_of_methodNamed Bd.named Bd.method).1
  have X0 : Stand p l e room_1 s m #[(.int p1), (.int p2), (.int p3)] below meth c s₁ [] 0 0 := Stand.of_body Bd
  have e0 : s₁.heap = h0 := by rw [← hh, Bd.state]; rfl
  have N0 := Fr.nil n0
  refine Goes.out (Goes.by (fun tz kz => castTop (ef0_III m p1 p2 p3) kz) ?_)
  show Goes p e below (s₁.setTop (mkF m 0 #[.val (.int p1), .val (.int p2), .val (.int p3), .unset, .unset, .unset, .unset, .unset, .unset, .unset, .unset] [])) _
  refine Goes.by (fun _ kz => XS.iloadN X0.here hx rfl (hb hby at_0) rfl (X0.ldcInt hx hown (mvT hZ (hw _ (List.mem_of_getElem? (i := 0) rfl))) (g := (mkF m 1 #[.val (.int p1), .val (.int p2), .val (.int p3), .unset, .unset, .unset, .unset, .unset, .unset, .unset, .unset] [(.int p1)])) rfl (hb hby at_1) _ (XS.iand X0.here hx rfl (hb hby at_3) rfl kz))) ?_
  show Goes p e below (s₁.setTop (mkF m 4 #[.val (.int p1), .val (.int p2), .val (.int p3), .unset, .unset, .unset, .unset, .unset, .unset, .unset, .unset] [(.int (p1 &&& (2147483647 : Int32)))])) _
  refine Goes.by (fun _ kz => XS.bipush X0.here hx rfl (hb hby at_4) (iremM X0 hx rfl (hb hby at_6) rfl (by decide) (XS.istoreN X0.here hx rfl (hb hby at_7) rfl (l' := #[.val (.int p1), .val (.int p2), .val (.int p3), .val (.int ((p1 &&& (2147483647 : Int32)) % (9 : Int32))), .unset, .unset, .unset, .unset, .unset, .unset, .unset]) rfl kz))) ?_
  show Goes p e below (s₁.setTop (mkF m 8 #[.val (.int p1), .val (.int p2), .val (.int p3), .val (.int ((p1 &&& (2147483647 : Int32)) % (9 : Int32))), .unset, .unset, .unset, .unset, .unset, .unset, .unset] [])) _
  refine Goes.by (fun _ kz => XS.iloadN X0.here hx rfl (hb hby at_8) rfl (X0.ldcInt hx hown (mvT hZ (hw _ (List.mem_of_getElem? (i := 0) rfl))) (g := (mkF m 9 #[.val (.int p1), .val (.int p2), .val (.int p3), .val (.int ((p1 &&& (2147483647 : Int32)) % (9 : Int32))), .unset, .unset, .unset, .unset, .unset, .unset, .unset] [(.int p2)])) rfl (hb hby at_9) _ (XS.iand X0.here hx rfl (hb hby at_11) rfl kz))) ?_
  show Goes p e below (s₁.setTop (mkF m 12 #[.val (.int p1), .val (.int p2), .val (.int p3), .val (.int ((p1 &&& (2147483647 : Int32)) % (9 : Int32))), .unset, .unset, .unset, .unset, .unset, .unset, .unset] [(.int (p2 &&& (2147483647 : Int32)))])) _
  refine Goes.by (fun _ kz => XS.istore X0.here hx rfl (hb hby at_12) rfl (l' := #[.val (.int p1), .val (.int p2), .val (.int p3), .val (.int ((p1 &&& (2147483647 : Int32)) % (9 : Int32))), .val (.int (p2 &&& (2147483647 : Int32))), .unset, .unset, .unset, .unset, .unset, .unset]) rfl kz) ?_
  show Goes p e below (s₁.setTop (mkF m 14 #[.val (.int p1), .val (.int p2), .val (.int p3), .val (.int ((p1 &&& (2147483647 : Int32)) % (9 : Int32))), .val (.int (p2 &&& (2147483647 : Int32))), .unset, .unset, .unset, .unset, .unset, .unset] [])) _
  have hsn := own_n p2
  obtain ⟨n, hnn⟩ : ∃ z, z = (p2 &&& (2147483647 : Int32)) := ⟨_, rfl⟩
  rw [← hnn] at hsn ⊢
  rcases hsn with rfl | rfl | ⟨hn0, hn1, hn2, hn3⟩
  · show Goes p e below (s₁.setTop (mkF m 14 #[.val (.int p1), .val (.int p2), .val (.int p3), .val (.int ((p1 &&& (2147483647 : Int32)) % (9 : Int32))), .val (.int (0 : Int32)), .unset, .unset, .unset, .unset, .unset, .unset] [])) _
    refine Goes.by (fun _ kz => XS.iloadN X0.here hx rfl (hb hby at_14) rfl (XS.iconst X0.here hx rfl (hb hby at_15) (XS.iand X0.here hx rfl (hb hby at_16) rfl kz))) ?_
    show Goes p e below (s₁.setTop (mkF m 17 #[.val (.int p1), .val (.int p2), .val (.int p3), .val (.int ((p1 &&& (2147483647 : Int32)) % (9 : Int32))), .val (.int (0 : Int32)), .unset, .unset, .unset, .unset, .unset, .unset] [(.int (p3 &&& (1 : Int32)))])) _
    rcases own_f p3 with hff | hff
    · rw [hff]
      show Goes p e below (s₁.setTop (mkF m 17 #[.val (.int p1), .val (.int p2), .val (.int p3), .val (.int ((p1 &&& (2147483647 : Int32)) % (9 : Int32))), .val (.int (0 : Int32)), .unset, .unset, .unset, .unset, .unset, .unset] [(.int (0 : Int32))])) _
      refine Goes.by (fun _ kz => XS.ifYes X0.here hx rfl (pc0 := 17) (pc' := 24) rfl (hb hby at_17) rfl ((if0 _ _).trans (teq (by decide : (0 : Int32) = (0 : Int32))).1) (by decide) (by decide) (XS.iconst X0.here hx rfl (hb hby at_24) (XS.istore X0.here hx rfl (hb hby at_25) rfl (l' := #[.val (.int p1), .val (.int p2), .val (.int p3), .val (.int ((p1 &&& (2147483647 : Int32)) % (9 : Int32))), .val (.int (0 : Int32)), .val (.int (0 : Int32)), .unset, .unset, .unset, .unset, .unset]) rfl kz))) ?_
      show Goes p e below (s₁.setTop (mkF m 27 #[.val (.int p1), .val (.int p2), .val (.int p3), .val (.int ((p1 &&& (2147483647 : Int32)) % (9 : Int32))), .val (.int (0 : Int32)), .val (.int (0 : Int32)), .unset, .unset, .unset, .unset, .unset] [])) _
      refine Goes.by (fun _ kz => XS.iload X0.here hx rfl (hb hby at_27) rfl (XS.ifNo X0.here hx rfl (hb hby at_29) rfl ((if0 _ _).trans (teq (by decide : (0 : Int32) = (0 : Int32))).2) (XS.iconst X0.here hx rfl (hb hby at_32) kz))) ?_
      show Goes p e below (s₁.setTop (mkF m 33 #[.val (.int p1), .val (.int p2), .val (.int p3), .val (.int ((p1 &&& (2147483647 : Int32)) % (9 : Int32))), .val (.int (0 : Int32)), .val (.int (0 : Int32)), .unset, .unset, .unset, .unset, .unset] [(.int (1 : Int32))])) _
      refine Goes.by (fun _ kz => XS.goto X0.here hx rfl (pc0 := 33) (pc' := 37) rfl (hb hby at_33) (by decide) (by decide) (XS.istore X0.here hx rfl (hb hby at_37) rfl (l' := #[.val (.int p1), .val (.int p2), .val (.int p3), .val (.int ((p1 &&& (2147483647 : Int32)) % (9 : Int32))), .val (.int (0 : Int32)), .val (.int (0 : Int32)), .val (.int (1 : Int32)), .unset, .unset, .unset, .unset]) rfl (XS.iload X0.here hx rfl (hb hby at_39) rfl kz))) ?_
      show Goes p e below (s₁.setTop (mkF m 41 #[.val (.int p1), .val (.int p2), .val (.int p3), .val (.int ((p1 &&& (2147483647 : Int32)) % (9 : Int32))), .val (.int (0 : Int32)), .val (.int (0 : Int32)), .val (.int (1 : Int32)), .unset, .unset, .unset, .unset] [(.int (0 : Int32))])) _
      refine Goes.by (fun _ kz => XS.iconst X0.here hx rfl (hb hby at_41) (XS.icmpYes X0.here hx rfl (pc0 := 42) (pc' := 49) rfl (hb hby at_42) rfl (feq (by decide : ¬ ((0 : Int32) = (1 : Int32)))).2 (by decide) (by decide) (XS.iconst X0.here hx rfl (hb hby at_49) kz))) ?_
      show Goes p e below (s₁.setTop (mkF m 50 #[.val (.int p1), .val (.int p2), .val (.int p3), .val (.int ((p1 &&& (2147483647 : Int32)) % (9 : Int32))), .val (.int (0 : Int32)), .val (.int (0 : Int32)), .val (.int (1 : Int32)), .unset, .unset, .unset, .unset] [(.int (0 : Int32))])) _
      refine Goes.by (fun _ kz => XS.istore X0.here hx rfl (hb hby at_50) rfl (l' := #[.val (.int p1), .val (.int p2), .val (.int p3), .val (.int ((p1 &&& (2147483647 : Int32)) % (9 : Int32))), .val (.int (0 : Int32)), .val (.int (0 : Int32)), .val (.int (1 : Int32)), .val (.int (0 : Int32)), .unset, .unset, .unset]) rfl (XS.iload X0.here hx rfl (hb hby at_52) rfl (XS.iconst X0.here hx rfl (hb hby at_54) kz))) ?_
      show Goes p e below (s₁.setTop (mkF m 55 #[.val (.int p1), .val (.int p2), .val (.int p3), .val (.int ((p1 &&& (2147483647 : Int32)) % (9 : Int32))), .val (.int (0 : Int32)), .val (.int (0 : Int32)), .val (.int (1 : Int32)), .val (.int (0 : Int32)), .unset, .unset, .unset] [(.int (1 : Int32)), (.int (0 : Int32))])) _
      refine Goes.by (fun _ kz => XS.icmpYes X0.here hx rfl (pc0 := 55) (pc' := 62) rfl (hb hby at_55) rfl (tlt (by decide : (0 : Int32) < (1 : Int32))).1 (by decide) (by decide) (XS.iconst X0.here hx rfl (hb hby at_62) (XS.istore X0.here hx rfl (hb hby at_63) rfl (l' := #[.val (.int p1), .val (.int p2), .val (.int p3), .val (.int ((p1 &&& (2147483647 : Int32)) % (9 : Int32))), .val (.int (0 : Int32)), .val (.int (0 : Int32)), .val (.int (1 : Int32)), .val (.int (0 : Int32)), .val (.int (0 : Int32)), .unset, .unset]) rfl kz))) ?_
      show Goes p e below (s₁.setTop (mkF m 65 #[.val (.int p1), .val (.int p2), .val (.int p3), .val (.int ((p1 &&& (2147483647 : Int32)) % (9 : Int32))), .val (.int (0 : Int32)), .val (.int (0 : Int32)), .val (.int (1 : Int32)), .val (.int (0 : Int32)), .val (.int (0 : Int32)), .unset, .unset] [])) _
      have hsi := own_split p1
      obtain ⟨i, hi⟩ : ∃ z, z = ((p1 &&& (2147483647 : Int32)) % (9 : Int32)) := ⟨_, rfl⟩
      rw [← hi] at hsi ⊢
      rcases hsi with rfl | rfl | rfl | rfl | rfl | rfl | rfl | rfl | rfl
      · show Goes p e below (s₁.setTop (mkF m 65 #[.val (.int p1), .val (.int p2), .val (.int p3), .val (.int (0 : Int32)), .val (.int (0 : Int32)), .val (.int (0 : Int32)), .val (.int (1 : Int32)), .val (.int (0 : Int32)), .val (.int (0 : Int32)), .unset, .unset] [])) _
        refine Goes.by (fun _ kz => XS.iloadN X0.here hx rfl (hb hby at_65) rfl (XS.ifNo X0.here hx rfl (hb hby at_66) rfl ((if0 _ _).trans (teq (by decide : (0 : Int32) = (0 : Int32))).2) kz)) ?_
        obtain ⟨T1, X1, e1, st1⟩ := getS2 X0 hx hZ hown (host := "") (Or.inl (hw _ (List.mem_of_getElem? (i := 1) rfl))) Via.refl e0 P.1 (g := (mkF m 69 #[.val (.int p1), .val (.int p2), .val (.int p3), .val (.int (0 : Int32)), .val (.int (0 : Int32)), .val (.int (0 : Int32)), .val (.int (1 : Int32)), .val (.int (0 : Int32)), .val (.int (0 : Int32)), .unset, .unset] [])) rfl (hb hby at_69)
        refine Goes.by st1 ?_
        refine Goes.by (fun _ kz => XS.astore X1.here hx rfl (hb hby at_72) rfl rfl (l' := #[.val (.int p1), .val (.int p2), .val (.int p3), .val (.int (0 : Int32)), .val (.int (0 : Int32)), .val (.int (0 : Int32)), .val (.int (1 : Int32)), .val (.int (0 : Int32)), .val (.int (0 : Int32)), .val (.ref (w 0)), .unset]) rfl (XS.iconst X1.here hx rfl (hb hby at_74) (XS.istore X1.here hx rfl (hb hby at_75) rfl (l' := #[.val (.int p1), .val (.int p2), .val (.int p3), .val (.int (0 : Int32)), .val (.int (0 : Int32)), .val (.int (0 : Int32)), .val (.int (1 : Int32)), .val (.int (0 : Int32)), .val (.int (0 : Int32)), .val (.ref (w 0)), .val (.int (1 : Int32))]) rfl kz))) ?_
        show Goes p e below (T1.setTop (mkF m 77 #[.val (.int p1), .val (.int p2), .val (.int p3), .val (.int (0 : Int32)), .val (.int (0 : Int32)), .val (.int (0 : Int32)), .val (.int (1 : Int32)), .val (.int (0 : Int32)), .val (.int (0 : Int32)), .val (.ref (w 0)), .val (.int (1 : Int32))] [])) _
        refine Goes.by (fun _ kz => XS.goto X1.here hx rfl (pc0 := 77) (pc' := 275) rfl (hb hby at_77) (by decide) (by decide) (XS.aload X1.here hx rfl (hb hby at_275) rfl rfl (XS.iload X1.here hx rfl (hb hby at_277) rfl kz))) ?_
        show Goes p e below (T1.setTop (mkF m 279 #[.val (.int p1), .val (.int p2), .val (.int p3), .val (.int (0 : Int32)), .val (.int (0 : Int32)), .val (.int (0 : Int32)), .val (.int (1 : Int32)), .val (.int (0 : Int32)), .val (.int (0 : Int32)), .val (.ref (w 0)), .val (.int (1 : Int32))] [(.int (0 : Int32)), (.ref (w 0))])) _
        refine Goes.by (fun _ kz => XS.iload X1.here hx rfl (hb hby at_279) rfl kz) ?_
        obtain ⟨cq3, kq3, q3a, q3b, q3c⟩ := isOf hZ e1 P.2.1
        obtain ⟨_, _, ⟨T3, L3, k3, n3⟩, -, X3, ⟨Lc3, hQ3, l3, y3, z3⟩, st3⟩ := X1.virtualBack hx (y := (⟨"com/example/entail/entail/model/Scope", "reaches", "(IZ)Z"⟩ : MethodName)) (z := (⟨"com/example/entail/entail/model/Scope", "reaches", "(IZ)Z"⟩ : MethodName)) hown (mvT hZ (hw _ (List.mem_of_getElem? (i := 4) rfl))) (mvT hZ (hw _ (List.mem_of_getElem? (i := 5) rfl))) (notFace_of_selects (args := #[]) (mvT hZ (hw _ (List.mem_of_getElem? (i := 7) rfl)))) (mvT hZ (hw _ (List.mem_of_getElem? (i := 7) rfl))) (mvT hZ (hw _ (List.mem_of_getElem? (i := 6) rfl))) (by decide) (backOf (W := 0) (r1_0 l Z a0 hw [] h0 n0 Z0 w P) hZ (hw _ (List.mem_of_getElem? (i := 8) rfl)) (hw _ (List.mem_of_getElem? (i := 2) rfl)) (by decide) (by decide)) q3a q3c (g := (mkF m 281 #[.val (.int p1), .val (.int p2), .val (.int p3), .val (.int (0 : Int32)), .val (.int (0 : Int32)), .val (.int (0 : Int32)), .val (.int (1 : Int32)), .val (.int (0 : Int32)), .val (.int (0 : Int32)), .val (.ref (w 0)), .val (.int (1 : Int32))] [(.int (0 : Int32)), (.int (0 : Int32)), (.ref (w 0))])) rfl (by rw [hml]; rfl) (Steps.refl _) (argsL := [(.int (0 : Int32)), (.int (0 : Int32))]) (rest := []) (lenOf pd0 rfl) rfl (by show 2 * 0 + _ ≤ _; exact Nat.le_of_eq rfl) (hb hby at_281) (fun _ _ => ⟨rfl, e1, (by decide : 0 + 0 ≤ _), (by decide : 0 + 0 ≤ _)⟩)
        dsimp only [Pt.U, Pt.locs, Pt.cells, Pt.slots] at X3 l3 y3 z3 st3 hQ3
        subst l3 y3 z3
        obtain ⟨rfl, Nq3, e3⟩ := hQ3
        have N3 := Fr.app N0 Nq3
        refine Goes.tr st3 ?_
        refine Goes.by (fun _ kz => XS.iload X3.here hx rfl (hb hby at_284) rfl (XS.icmpNo X3.here hx rfl (hb hby at_286) rfl (teq (by decide : (1 : Int32) = (1 : Int32))).2 (XS.iconst X3.here hx rfl (hb hby at_289) kz))) ?_
        show Goes p e below (T3.setTop (mkF m 290 #[.val (.int p1), .val (.int p2), .val (.int p3), .val (.int (0 : Int32)), .val (.int (0 : Int32)), .val (.int (0 : Int32)), .val (.int (1 : Int32)), .val (.int (0 : Int32)), .val (.int (0 : Int32)), .val (.ref (w 0)), .val (.int (1 : Int32))] [(.int (1 : Int32))])) _
        refine Goes.by (fun _ kz => XS.goto X3.here hx rfl (pc0 := 290) (pc' := 294) rfl (hb hby at_290) (by decide) (by decide) kz) ?_
        show Goes p e below (T3.setTop (mkF m 294 #[.val (.int p1), .val (.int p2), .val (.int p3), .val (.int (0 : Int32)), .val (.int (0 : Int32)), .val (.int (0 : Int32)), .val (.int (1 : Int32)), .val (.int (0 : Int32)), .val (.int (0 : Int32)), .val (.ref (w 0)), .val (.int (1 : Int32))] [(.int (1 : Int32))])) _
        obtain ⟨fs, hr, hrun, hended, hW, hsame⟩ := X3.leave (v := some (.int (1 : Int32))) (fun h => by rw [Bd.returns] at h; cases h)
        exact ⟨_, _, retN X3 hx (t := .boolean) Bd.returns (by simp) (hb hby at_294) hr, hrun, hended, _, _, rfl, ⟨rfl, N3⟩, ⟨_, rfl⟩, hW, hsame.mono (by decide) (by decide)⟩
      · show Goes p e below (s₁.setTop (mkF m 65 #[.val (.int p1), .val (.int p2), .val (.int p3), .val (.int (1 : Int32)), .val (.int (0 : Int32)), .val (.int (0 : Int32)), .val (.int (1 : Int32)), .val (.int (0 : Int32)), .val (.int (0 : Int32)), .unset, .unset] [])) _
        refine Goes.by (fun _ kz => XS.iloadN X0.here hx rfl (hb hby at_65) rfl (XS.ifYes X0.here hx rfl (pc0 := 66) (pc' := 80) rfl (hb hby at_66) rfl ((if0 _ _).trans (feq (by decide : ¬ ((1 : Int32) = (0 : Int32)))).2) (by decide) (by decide) (XS.iloadN X0.here hx rfl (hb hby at_80) rfl kz))) ?_
        show Goes p e below (s₁.setTop (mkF m 81 #[.val (.int p1), .val (.int p2), .val (.int p3), .val (.int (1 : Int32)), .val (.int (0 : Int32)), .val (.int (0 : Int32)), .val (.int (1 : Int32)), .val (.int (0 : Int32)), .val (.int (0 : Int32)), .unset, .unset] [(.int (1 : Int32))])) _
        refine Goes.by (fun _ kz => XS.iconst X0.here hx rfl (hb hby at_81) (XS.icmpNo X0.here hx rfl (hb hby at_82) rfl (teq (by decide : (1 : Int32) = (1 : Int32))).2 kz)) ?_
        obtain ⟨T4, X4, e4, st4⟩ := getS2 X0 hx hZ hown (host := "") (Or.inl (hw _ (List.mem_of_getElem? (i := 11) rfl))) Via.refl e0 P.2.2.1 (g := (mkF m 85 #[.val (.int p1), .val (.int p2), .val (.int p3), .val (.int (1 : Int32)), .val (.int (0 : Int32)), .val (.int (0 : Int32)), .val (.int (1 : Int32)), .val (.int (0 : Int32)), .val (.int (0 : Int32)), .unset, .unset] [])) rfl (hb hby at_85)
        refine Goes.by st4 ?_
        refine Goes.by (fun _ kz => XS.astore X4.here hx rfl (hb hby at_88) rfl rfl (l' := #[.val (.int p1), .val (.int p2), .val (.int p3), .val (.int (1 : Int32)), .val (.int (0 : Int32)), .val (.int (0 : Int32)), .val (.int (1 : Int32)), .val (.int (0 : Int32)), .val (.int (0 : Int32)), .val (.ref (w 1)), .unset]) rfl (XS.iload X4.here hx rfl (hb hby at_90) rfl (XS.ifYes X4.here hx rfl (pc0 := 92) (pc' := 100) rfl (hb hby at_92) rfl ((if0 _ _).trans (feq (by decide : ¬ ((1 : Int32) = (0 : Int32)))).2) (by decide) (by decide) kz))) ?_
        show Goes p e below (T4.setTop (mkF m 100 #[.val (.int p1), .val (.int p2), .val (.int p3), .val (.int (1 : Int32)), .val (.int (0 : Int32)), .val (.int (0 : Int32)), .val (.int (1 : Int32)), .val (.int (0 : Int32)), .val (.int (0 : Int32)), .val (.ref (w 1)), .unset] [])) _
        refine Goes.by (fun _ kz => XS.iconst X4.here hx rfl (hb hby at_100) (XS.goto X4.here hx rfl (pc0 := 101) (pc' := 105) rfl (hb hby at_101) (by decide) (by decide) (XS.istore X4.here hx rfl (hb hby at_105) rfl (l' := #[.val (.int p1), .val (.int p2), .val (.int p3), .val (.int (1 : Int32)), .val (.int (0 : Int32)), .val (.int (0 : Int32)), .val (.int (1 : Int32)), .val (.int (0 : Int32)), .val (.int (0 : Int32)), .val (.ref (w 1)), .val (.int (1 : Int32))]) rfl kz))) ?_
        show Goes p e below (T4.setTop (mkF m 107 #[.val (.int p1), .val (.int p2), .val (.int p3), .val (.int (1 : Int32)), .val (.int (0 : Int32)), .val (.int (0 : Int32)), .val (.int (1 : Int32)), .val (.int (0 : Int32)), .val (.int (0 : Int32)), .val (.ref (w 1)), .val (.int (1 : Int32))] [])) _
        refine Goes.by (fun _ kz => XS.goto X4.here hx rfl (pc0 := 107) (pc' := 275) rfl (hb hby at_107) (by decide) (by decide) (XS.aload X4.here hx rfl (hb hby at_275) rfl rfl (XS.iload X4.here hx rfl (hb hby at_277) rfl kz))) ?_
        show Goes p e below (T4.setTop (mkF m 279 #[.val (.int p1), .val (.int p2), .val (.int p3), .val (.int (1 : Int32)), .val (.int (0 : Int32)), .val (.int (0 : Int32)), .val (.int (1 : Int32)), .val (.int (0 : Int32)), .val (.int (0 : Int32)), .val (.ref (w 1)), .val (.int (1 : Int32))] [(.int (0 : Int32)), (.ref (w 1))])) _
        refine Goes.by (fun _ kz => XS.iload X4.here hx rfl (hb hby at_279) rfl kz) ?_
        obtain ⟨cq6, kq6, q6a, q6b, q6c⟩ := isOf hZ e4 P.2.2.2.1
        obtain ⟨_, _, ⟨T6, L6, k6, n6⟩, -, X6, ⟨Lc6, hQ6, l6, y6, z6⟩, st6⟩ := X4.virtualBack hx (y := (⟨"com/example/entail/entail/model/Scope", "reaches", "(IZ)Z"⟩ : MethodName)) (z := (⟨"com/example/entail/entail/model/Scope", "reaches", "(IZ)Z"⟩ : MethodName)) hown (mvT hZ (hw _ (List.mem_of_getElem? (i := 4) rfl))) (mvT hZ (hw _ (List.mem_of_getElem? (i := 5) rfl))) (notFace_of_selects (args := #[]) (mvT hZ (hw _ (List.mem_of_getElem? (i := 7) rfl)))) (mvT hZ (hw _ (List.mem_of_getElem? (i := 7) rfl))) (mvT hZ (hw _ (List.mem_of_getElem? (i := 6) rfl))) (by decide) (backOf (W := 0) (r1_1 l Z a0 hw [] h0 n0 Z0 w P) hZ (hw _ (List.mem_of_getElem? (i := 8) rfl)) (hw _ (List.mem_of_getElem? (i := 2) rfl)) (by decide) (by decide)) q6a q6c (g := (mkF m 281 #[.val (.int p1), .val (.int p2), .val (.int p3), .val (.int (1 : Int32)), .val (.int (0 : Int32)), .val (.int (0 : Int32)), .val (.int (1 : Int32)), .val (.int (0 : Int32)), .val (.int (0 : Int32)), .val (.ref (w 1)), .val (.int (1 : Int32))] [(.int (0 : Int32)), (.int (0 : Int32)), (.ref (w 1))])) rfl (by rw [hml]; rfl) (Steps.refl _) (argsL := [(.int (0 : Int32)), (.int (0 : Int32))]) (rest := []) (lenOf pd0 rfl) rfl (by show 2 * 0 + _ ≤ _; exact Nat.le_of_eq rfl) (hb hby at_281) (fun _ _ => ⟨rfl, e4, (by decide : 0 + 0 ≤ _), (by decide : 0 + 0 ≤ _)⟩)
        dsimp only [Pt.U, Pt.locs, Pt.cells, Pt.slots] at X6 l6 y6 z6 st6 hQ6
        subst l6 y6 z6
        obtain ⟨rfl, Nq6, e6⟩ := hQ6
        have N6 := Fr.app N0 Nq6
        refine Goes.tr st6 ?_
        refine Goes.by (fun _ kz => XS.iload X6.here hx rfl (hb hby at_284) rfl (XS.icmpNo X6.here hx rfl (hb hby at_286) rfl (teq (by decide : (1 : Int32) = (1 : Int32))).2 (XS.iconst X6.here hx rfl (hb hby at_289) kz))) ?_
        show Goes p e below (T6.setTop (mkF m 290 #[.val (.int p1), .val (.int p2), .val (.int p3), .val (.int (1 : Int32)), .val (.int (0 : Int32)), .val (.int (0 : Int32)), .val (.int (1 : Int32)), .val (.int (0 : Int32)), .val (.int (0 : Int32)), .val (.ref (w 1)), .val (.int (1 : Int32))] [(.int (1 : Int32))])) _
        refine Goes.by (fun _ kz => XS.goto X6.here hx rfl (pc0 := 290) (pc' := 294) rfl (hb hby at_290) (by decide) (by decide) kz) ?_
        show Goes p e below (T6.setTop (mkF m 294 #[.val (.int p1), .val (.int p2), .val (.int p3), .val (.int (1 : Int32)), .val (.int (0 : Int32)), .val (.int (0 : Int32)), .val (.int (1 : Int32)), .val (.int (0 : Int32)), .val (.int (0 : Int32)), .val (.ref (w 1)), .val (.int (1 : Int32))] [(.int (1 : Int32))])) _
        obtain ⟨fs, hr, hrun, hended, hW, hsame⟩ := X6.leave (v := some (.int (1 : Int32))) (fun h => by rw [Bd.returns] at h; cases h)
        exact ⟨_, _, retN X6 hx (t := .boolean) Bd.returns (by simp) (hb hby at_294) hr, hrun, hended, _, _, rfl, ⟨rfl, N6⟩, ⟨_, rfl⟩, hW, hsame.mono (by decide) (by decide)⟩
      · show Goes p e below (s₁.setTop (mkF m 65 #[.val (.int p1), .val (.int p2), .val (.int p3), .val (.int (2 : Int32)), .val (.int (0 : Int32)), .val (.int (0 : Int32)), .val (.int (1 : Int32)), .val (.int (0 : Int32)), .val (.int (0 : Int32)), .unset, .unset] [])) _
        refine Goes.by (fun _ kz => XS.iloadN X0.here hx rfl (hb hby at_65) rfl (XS.ifYes X0.here hx rfl (pc0 := 66) (pc' := 80) rfl (hb hby at_66) rfl ((if0 _ _).trans (feq (by decide : ¬ ((2 : Int32) = (0 : Int32)))).2) (by decide) (by decide) (XS.iloadN X0.here hx rfl (hb hby at_80) rfl kz))) ?_
        show Goes p e below (s₁.setTop (mkF m 81 #[.val (.int p1), .val (.int p2), .val (.int p3), .val (.int (2 : Int32)), .val (.int (0 : Int32)), .val (.int (0 : Int32)), .val (.int (1 : Int32)), .val (.int (0 : Int32)), .val (.int (0 : Int32)), .unset, .unset] [(.int (2 : Int32))])) _
        refine Goes.by (fun _ kz => XS.iconst X0.here hx rfl (hb hby at_81) (XS.icmpYes X0.here hx rfl (pc0 := 82) (pc' := 110) rfl (hb hby at_82) rfl (feq (by decide : ¬ ((2 : Int32) = (1 : Int32)))).2 (by decide) (by decide) (XS.iloadN X0.here hx rfl (hb hby at_110) rfl kz))) ?_
        show Goes p e below (s₁.setTop (mkF m 111 #[.val (.int p1), .val (.int p2), .val (.int p3), .val (.int (2 : Int32)), .val (.int (0 : Int32)), .val (.int (0 : Int32)), .val (.int (1 : Int32)), .val (.int (0 : Int32)), .val (.int (0 : Int32)), .unset, .unset] [(.int (2 : Int32))])) _
        refine Goes.by (fun _ kz => XS.iconst X0.here hx rfl (hb hby at_111) (XS.icmpNo X0.here hx rfl (hb hby at_112) rfl (teq (by decide : (2 : Int32) = (2 : Int32))).2 kz)) ?_
        obtain ⟨T7, X7, e7, st7⟩ := getS2 X0 hx hZ hown (host := "") (Or.inl (hw _ (List.mem_of_getElem? (i := 15) rfl))) Via.refl e0 P.2.2.2.2.1 (g := (mkF m 115 #[.val (.int p1), .val (.int p2), .val (.int p3), .val (.int (2 : Int32)), .val (.int (0 : Int32)), .val (.int (0 : Int32)), .val (.int (1 : Int32)), .val (.int (0 : Int32)), .val (.int (0 : Int32)), .unset, .unset] [])) rfl (hb hby at_115)
        refine Goes.by st7 ?_
        refine Goes.by (fun _ kz => XS.astore X7.here hx rfl (hb hby at_118) rfl rfl (l' := #[.val (.int p1), .val (.int p2), .val (.int p3), .val (.int (2 : Int32)), .val (.int (0 : Int32)), .val (.int (0 : Int32)), .val (.int (1 : Int32)), .val (.int (0 : Int32)), .val (.int (0 : Int32)), .val (.ref (w 2)), .unset]) rfl (XS.iload X7.here hx rfl (hb hby at_120) rfl (XS.ifYes X7.here hx rfl (pc0 := 122) (pc' := 130) rfl (hb hby at_122) rfl ((if0 _ _).trans (feq (by decide : ¬ ((1 : Int32) = (0 : Int32)))).2) (by decide) (by decide) kz))) ?_
        show Goes p e below (T7.setTop (mkF m 130 #[.val (.int p1), .val (.int p2), .val (.int p3), .val (.int (2 : Int32)), .val (.int (0 : Int32)), .val (.int (0 : Int32)), .val (.int (1 : Int32)), .val (.int (0 : Int32)), .val (.int (0 : Int32)), .val (.ref (w 2)), .unset] [])) _
        refine Goes.by (fun _ kz => XS.iconst X7.here hx rfl (hb hby at_130) (XS.goto X7.here hx rfl (pc0 := 131) (pc' := 135) rfl (hb hby at_131) (by decide) (by decide) (XS.istore X7.here hx rfl (hb hby at_135) rfl (l' := #[.val (.int p1), .val (.int p2), .val (.int p3), .val (.int (2 : Int32)), .val (.int (0 : Int32)), .val (.int (0 : Int32)), .val (.int (1 : Int32)), .val (.int (0 : Int32)), .val (.int (0 : Int32)), .val (.ref (w 2)), .val (.int (1 : Int32))]) rfl kz))) ?_
        show Goes p e below (T7.setTop (mkF m 137 #[.val (.int p1), .val (.int p2), .val (.int p3), .val (.int (2 : Int32)), .val (.int (0 : Int32)), .val (.int (0 : Int32)), .val (.int (1 : Int32)), .val (.int (0 : Int32)), .val (.int (0 : Int32)), .val (.ref (w 2)), .val (.int (1 : Int32))] [])) _
        refine Goes.by (fun _ kz => XS.goto X7.here hx rfl (pc0 := 137) (pc' := 275) rfl (hb hby at_137) (by decide) (by decide) (XS.aload X7.here hx rfl (hb hby at_275) rfl rfl (XS.iload X7.here hx rfl (hb hby at_277) rfl kz))) ?_
        show Goes p e below (T7.setTop (mkF m 279 #[.val (.int p1), .val (.int p2), .val (.int p3), .val (.int (2 : Int32)), .val (.int (0 : Int32)), .val (.int (0 : Int32)), .val (.int (1 : Int32)), .val (.int (0 : Int32)), .val (.int (0 : Int32)), .val (.ref (w 2)), .val (.int (1 : Int32))] [(.int (0 : Int32)), (.ref (w 2))])) _
        refine Goes.by (fun _ kz => XS.iload X7.here hx rfl (hb hby at_279) rfl kz) ?_
        obtain ⟨cq9, kq9, q9a, q9b, q9c⟩ := isOf hZ e7 P.2.2.2.2.2.1
        obtain ⟨_, _, ⟨T9, L9, k9, n9⟩, -, X9, ⟨Lc9, hQ9, l9, y9, z9⟩, st9⟩ := X7.virtualBack hx (y := (⟨"com/example/entail/entail/model/Scope", "reaches", "(IZ)Z"⟩ : MethodName)) (z := (⟨"com/example/entail/entail/model/Scope", "reaches", "(IZ)Z"⟩ : MethodName)) hown (mvT hZ (hw _ (List.mem_of_getElem? (i := 4) rfl))) (mvT hZ (hw _ (List.mem_of_getElem? (i := 5) rfl))) (notFace_of_selects (args := #[]) (mvT hZ (hw _ (List.mem_of_getElem? (i := 7) rfl)))) (mvT hZ (hw _ (List.mem_of_getElem? (i := 7) rfl))) (mvT hZ (hw _ (List.mem_of_getElem? (i := 6) rfl))) (by decide) (backOf (W := 0) (r1_2 l Z a0 hw [] h0 n0 Z0 w P) hZ (hw _ (List.mem_of_getElem? (i := 8) rfl)) (hw _ (List.mem_of_getElem? (i := 2) rfl)) (by decide) (by decide)) q9a q9c (g := (mkF m 281 #[.val (.int p1), .val (.int p2), .val (.int p3), .val (.int (2 : Int32)), .val (.int (0 : Int32)), .val (.int (0 : Int32)), .val (.int (1 : Int32)), .val (.int (0 : Int32)), .val (.int (0 : Int32)), .val (.ref (w 2)), .val (.int (1 : Int32))] [(.int (0 : Int32)), (.int (0 : Int32)), (.ref (w 2))])) rfl (by rw [hml]; rfl) (Steps.refl _) (argsL := [(.int (0 : Int32)), (.int (0 : Int32))]) (rest := []) (lenOf pd0 rfl) rfl (by show 2 * 0 + _ ≤ _; exact Nat.le_of_eq rfl) (hb hby at_281) (fun _ _ => ⟨rfl, e7, (by decide : 0 + 0 ≤ _), (by decide : 0 + 0 ≤ _)⟩)
        dsimp only [Pt.U, Pt.locs, Pt.cells, Pt.slots] at X9 l9 y9 z9 st9 hQ9
        subst l9 y9 z9
        obtain ⟨rfl, Nq9, e9⟩ := hQ9
        have N9 := Fr.app N0 Nq9
        refine Goes.tr st9 ?_
        refine Goes.by (fun _ kz => XS.iload X9.here hx rfl (hb hby at_284) rfl (XS.icmpNo X9.here hx rfl (hb hby at_286) rfl (teq (by decide : (1 : Int32) = (1 : Int32))).2 (XS.iconst X9.here hx rfl (hb hby at_289) kz))) ?_
        show Goes p e below (T9.setTop (mkF m 290 #[.val (.int p1), .val (.int p2), .val (.int p3), .val (.int (2 : Int32)), .val (.int (0 : Int32)), .val (.int (0 : Int32)), .val (.int (1 : Int32)), .val (.int (0 : Int32)), .val (.int (0 : Int32)), .val (.ref (w 2)), .val (.int (1 : Int32))] [(.int (1 : Int32))])) _
        refine Goes.by (fun _ kz => XS.goto X9.here hx rfl (pc0 := 290) (pc' := 294) rfl (hb hby at_290) (by decide) (by decide) kz) ?_
        show Goes p e below (T9.setTop (mkF m 294 #[.val (.int p1), .val (.int p2), .val (.int p3), .val (.int (2 : Int32)), .val (.int (0 : Int32)), .val (.int (0 : Int32)), .val (.int (1 : Int32)), .val (.int (0 : Int32)), .val (.int (0 : Int32)), .val (.ref (w 2)), .val (.int (1 : Int32))] [(.int (1 : Int32))])) _
        obtain ⟨fs, hr, hrun, hended, hW, hsame⟩ := X9.leave (v := some (.int (1 : Int32))) (fun h => by rw [Bd.returns] at h; cases h)
        exact ⟨_, _, retN X9 hx (t := .boolean) Bd.returns (by simp) (hb hby at_294) hr, hrun, hended, _, _, rfl, ⟨rfl, N9⟩, ⟨_, rfl⟩, hW, hsame.mono (by decide) (by decide)⟩
      · show Goes p e below (s₁.setTop (mkF m 65 #[.val (.int p1), .val (.int p2), .val (.int p3), .val (.int (3 : Int32)), .val (.int (0 : Int32)), .val (.int (0 : Int32)), .val (.int (1 : Int32)), .val (.int (0 : Int32)), .val (.int (0 : Int32)), .unset, .unset] [])) _
        refine Goes.by (fun _ kz => XS.iloadN X0.here hx rfl (hb hby at_65) rfl (XS.ifYes X0.here hx rfl (pc0 := 66) (pc' := 80) rfl (hb hby at_66) rfl ((if0 _ _).trans (feq (by decide : ¬ ((3 : Int32) = (0 : Int32)))).2) (by decide) (by decide) (XS.iloadN X0.here hx rfl (hb hby at_80) rfl kz))) ?_
        show Goes p e below (s₁.setTop (mkF m 81 #[.val (.int p1), .val (.int p2), .val (.int p3), .val (.int (3 : Int32)), .val (.int (0 : Int32)), .val (.int (0 : Int32)), .val (.int (1 : Int32)), .val (.int (0 : Int32)), .val (.int (0 : Int32)), .unset, .unset] [(.int (3 : Int32))])) _
        refine Goes.by (fun _ kz => XS.iconst X0.here hx rfl (hb hby at_81) (XS.icmpYes X0.here hx rfl (pc0 := 82) (pc' := 110) rfl (hb hby at_82) rfl (feq (by decide : ¬ ((3 : Int32) = (1 : Int32)))).2 (by decide) (by decide) (XS.iloadN X0.here hx rfl (hb hby at_110) rfl kz))) ?_
        show Goes p e below (s₁.setTop (mkF m 111 #[.val (.int p1), .val (.int p2), .val (.int p3), .val (.int (3 : Int32)), .val (.int (0 : Int32)), .val (.int (0 : Int32)), .val (.int (1 : Int32)), .val (.int (0 : Int32)), .val (.int (0 : Int32)), .unset, .unset] [(.int (3 : Int32))])) _
        refine Goes.by (fun _ kz => XS.iconst X0.here hx rfl (hb hby at_111) (XS.icmpYes X0.here hx rfl (pc0 := 112) (pc' := 140) rfl (hb hby at_112) rfl (feq (by decide : ¬ ((3 : Int32) = (2 : Int32)))).2 (by decide) (by decide) (XS.iloadN X0.here hx rfl (hb hby at_140) rfl kz))) ?_
        show Goes p e below (s₁.setTop (mkF m 141 #[.val (.int p1), .val (.int p2), .val (.int p3), .val (.int (3 : Int32)), .val (.int (0 : Int32)), .val (.int (0 : Int32)), .val (.int (1 : Int32)), .val (.int (0 : Int32)), .val (.int (0 : Int32)), .unset, .unset] [(.int (3 : Int32))])) _
        refine Goes.by (fun _ kz => XS.iconst X0.here hx rfl (hb hby at_141) (XS.icmpNo X0.here hx rfl (hb hby at_142) rfl (teq (by decide : (3 : Int32) = (3 : Int32))).2 kz)) ?_
        obtain ⟨T10, X10, e10, st10⟩ := getS2 X0 hx hZ hown (host := "") (Or.inl (hw _ (List.mem_of_getElem? (i := 25) rfl))) Via.refl e0 P.2.2.2.2.2.2.2.2.2.2.2.2.1 (g := (mkF m 145 #[.val (.int p1), .val (.int p2), .val (.int p3), .val (.int (3 : Int32)), .val (.int (0 : Int32)), .val (.int (0 : Int32)), .val (.int (1 : Int32)), .val (.int (0 : Int32)), .val (.int (0 : Int32)), .unset, .unset] [])) rfl (hb hby at_145)
        refine Goes.by st10 ?_
        refine Goes.by (fun _ kz => XS.astore X10.here hx rfl (hb hby at_148) rfl rfl (l' := #[.val (.int p1), .val (.int p2), .val (.int p3), .val (.int (3 : Int32)), .val (.int (0 : Int32)), .val (.int (0 : Int32)), .val (.int (1 : Int32)), .val (.int (0 : Int32)), .val (.int (0 : Int32)), .val (.ref (w 6)), .unset]) rfl (XS.iload X10.here hx rfl (hb hby at_150) rfl (XS.istore X10.here hx rfl (hb hby at_152) rfl (l' := #[.val (.int p1), .val (.int p2), .val (.int p3), .val (.int (3 : Int32)), .val (.int (0 : Int32)), .val (.int (0 : Int32)), .val (.int (1 : Int32)), .val (.int (0 : Int32)), .val (.int (0 : Int32)), .val (.ref (w 6)), .val (.int (0 : Int32))]) rfl kz))) ?_
        show Goes p e below (T10.setTop (mkF m 154 #[.val (.int p1), .val (.int p2), .val (.int p3), .val (.int (3 : Int32)), .val (.int (0 : Int32)), .val (.int (0 : Int32)), .val (.int (1 : Int32)), .val (.int (0 : Int32)), .val (.int (0 : Int32)), .val (.ref (w 6)), .val (.int (0 : Int32))] [])) _
        refine Goes.by (fun _ kz => XS.goto X10.here hx rfl (pc0 := 154) (pc' := 275) rfl (hb hby at_154) (by decide) (by decide) (XS.aload X10.here hx rfl (hb hby at_275) rfl rfl (XS.iload X10.here hx rfl (hb hby at_277) rfl kz))) ?_
        show Goes p e below (T10.setTop (mkF m 279 #[.val (.int p1), .val (.int p2), .val (.int p3), .val (.int (3 : Int32)), .val (.int (0 : Int32)), .val (.int (0 : Int32)), .val (.int (1 : Int32)), .val (.int (0 : Int32)), .val (.int (0 : Int32)), .val (.ref (w 6)), .val (.int (0 : Int32))] [(.int (0 : Int32)), (.ref (w 6))])) _
        refine Goes.by (fun _ kz => XS.iload X10.here hx rfl (hb hby at_279) rfl kz) ?_
        obtain ⟨cq12, kq12, q12a, q12b, q12c⟩ := isOf hZ e10 P.2.2.2.2.2.2.2.2.2.2.2.2.2.1
        obtain ⟨_, _, ⟨T12, L12, k12, n12⟩, -, X12, ⟨Lc12, hQ12, l12, y12, z12⟩, st12⟩ := X10.virtualBack hx (y := (⟨"com/example/entail/entail/model/Scope", "reaches", "(IZ)Z"⟩ : MethodName)) (z := (⟨"com/example/entail/entail/model/Scope", "reaches", "(IZ)Z"⟩ : MethodName)) hown (mvT hZ (hw _ (List.mem_of_getElem? (i := 4) rfl))) (mvT hZ (hw _ (List.mem_of_getElem? (i := 5) rfl))) (notFace_of_selects (args := #[]) (mvT hZ (hw _ (List.mem_of_getElem? (i := 7) rfl)))) (mvT hZ (hw _ (List.mem_of_getElem? (i := 7) rfl))) (mvT hZ (hw _ (List.mem_of_getElem? (i := 6) rfl))) (by decide) (backOf (W := 0) (r1_3 l Z a0 hw [] h0 n0 Z0 w P) hZ (hw _ (List.mem_of_getElem? (i := 8) rfl)) (hw _ (List.mem_of_getElem? (i := 2) rfl)) (by decide) (by decide)) q12a q12c (g := (mkF m 281 #[.val (.int p1), .val (.int p2), .val (.int p3), .val (.int (3 : Int32)), .val (.int (0 : Int32)), .val (.int (0 : Int32)), .val (.int (1 : Int32)), .val (.int (0 : Int32)), .val (.int (0 : Int32)), .val (.ref (w 6)), .val (.int (0 : Int32))] [(.int (0 : Int32)), (.int (0 : Int32)), (.ref (w 6))])) rfl (by rw [hml]; rfl) (Steps.refl _) (argsL := [(.int (0 : Int32)), (.int (0 : Int32))]) (rest := []) (lenOf pd0 rfl) rfl (by show 2 * 0 + _ ≤ _; exact Nat.le_of_eq rfl) (hb hby at_281) (fun _ _ => ⟨rfl, e10, (by decide : 0 + 0 ≤ _), (by decide : 0 + 0 ≤ _)⟩)
        dsimp only [Pt.U, Pt.locs, Pt.cells, Pt.slots] at X12 l12 y12 z12 st12 hQ12
        subst l12 y12 z12
        obtain ⟨rfl, Nq12, e12⟩ := hQ12
        have N12 := Fr.app N0 Nq12
        refine Goes.tr st12 ?_
        refine Goes.by (fun _ kz => XS.iload X12.here hx rfl (hb hby at_284) rfl (XS.icmpNo X12.here hx rfl (hb hby at_286) rfl (teq (by decide : (0 : Int32) = (0 : Int32))).2 (XS.iconst X12.here hx rfl (hb hby at_289) kz))) ?_
        show Goes p e below (T12.setTop (mkF m 290 #[.val (.int p1), .val (.int p2), .val (.int p3), .val (.int (3 : Int32)), .val (.int (0 : Int32)), .val (.int (0 : Int32)), .val (.int (1 : Int32)), .val (.int (0 : Int32)), .val (.int (0 : Int32)), .val (.ref (w 6)), .val (.int (0 : Int32))] [(.int (1 : Int32))])) _
        refine Goes.by (fun _ kz => XS.goto X12.here hx rfl (pc0 := 290) (pc' := 294) rfl (hb hby at_290) (by decide) (by decide) kz) ?_
        show Goes p e below (T12.setTop (mkF m 294 #[.val (.int p1), .val (.int p2), .val (.int p3), .val (.int (3 : Int32)), .val (.int (0 : Int32)), .val (.int (0 : Int32)), .val (.int (1 : Int32)), .val (.int (0 : Int32)), .val (.int (0 : Int32)), .val (.ref (w 6)), .val (.int (0 : Int32))] [(.int (1 : Int32))])) _
        obtain ⟨fs, hr, hrun, hended, hW, hsame⟩ := X12.leave (v := some (.int (1 : Int32))) (fun h => by rw [Bd.returns] at h; cases h)
        exact ⟨_, _, retN X12 hx (t := .boolean) Bd.returns (by simp) (hb hby at_294) hr, hrun, hended, _, _, rfl, ⟨rfl, N12⟩, ⟨_, rfl⟩, hW, hsame.mono (by decide) (by decide)⟩
      · show Goes p e below (s₁.setTop (mkF m 65 #[.val (.int p1), .val (.int p2), .val (.int p3), .val (.int (4 : Int32)), .val (.int (0 : Int32)), .val (.int (0 : Int32)), .val (.int (1 : Int32)), .val (.int (0 : Int32)), .val (.int (0 : Int32)), .unset, .unset] [])) _
        refine Goes.by (fun _ kz => XS.iloadN X0.here hx rfl (hb hby at_65) rfl (XS.ifYes X0.here hx rfl (pc0 := 66) (pc' := 80) rfl (hb hby at_66) rfl ((if0 _ _).trans (feq (by decide : ¬ ((4 : Int32) = (0 : Int32)))).2) (by decide) (by decide) (XS.iloadN X0.here hx rfl (hb hby at_80) rfl kz))) ?_
        show Goes p e below (s₁.setTop (mkF m 81 #[.val (.int p1), .val (.int p2), .val (.int p3), .val (.int (4 : Int32)), .val (.int (0 : Int32)), .val (.int (0 : Int32)), .val (.int (1 : Int32)), .val (.int (0 : Int32)), .val (.int (0 : Int32)), .unset, .unset] [(.int (4 : Int32))])) _
        refine Goes.by (fun _ kz => XS.iconst X0.here hx rfl (hb hby at_81) (XS.icmpYes X0.here hx rfl (pc0 := 82) (pc' := 110) rfl (hb hby at_82) rfl (feq (by decide : ¬ ((4 : Int32) = (1 : Int32)))).2 (by decide) (by decide) (XS.iloadN X0.here hx rfl (hb hby at_110) rfl kz))) ?_
        show Goes p e below (s₁.setTop (mkF m 111 #[.val (.int p1), .val (.int p2), .val (.int p3), .val (.int (4 : Int32)), .val (.int (0 : Int32)), .val (.int (0 : Int32)), .val (.int (1 : Int32)), .val (.int (0 : Int32)), .val (.int (0 : Int32)), .unset, .unset] [(.int (4 : Int32))])) _
        refine Goes.by (fun _ kz => XS.iconst X0.here hx rfl (hb hby at_111) (XS.icmpYes X0.here hx rfl (pc0 := 112) (pc' := 140) rfl (hb hby at_112) rfl (feq (by decide : ¬ ((4 : Int32) = (2 : Int32)))).2 (by decide) (by decide) (XS.iloadN X0.here hx rfl (hb hby at_140) rfl kz))) ?_
        show Goes p e below (s₁.setTop (mkF m 141 #[.val (.int p1), .val (.int p2), .val (.int p3), .val (.int (4 : Int32)), .val (.int (0 : Int32)), .val (.int (0 : Int32)), .val (.int (1 : Int32)), .val (.int (0 : Int32)), .val (.int (0 : Int32)), .unset, .unset] [(.int (4 : Int32))])) _
        refine Goes.by (fun _ kz => XS.iconst X0.here hx rfl (hb hby at_141) (XS.icmpYes X0.here hx rfl (pc0 := 142) (pc' := 157) rfl (hb hby at_142) rfl (feq (by decide : ¬ ((4 : Int32) = (3 : Int32)))).2 (by decide) (by decide) (XS.iloadN X0.here hx rfl (hb hby at_157) rfl kz))) ?_
        show Goes p e below (s₁.setTop (mkF m 158 #[.val (.int p1), .val (.int p2), .val (.int p3), .val (.int (4 : Int32)), .val (.int (0 : Int32)), .val (.int (0 : Int32)), .val (.int (1 : Int32)), .val (.int (0 : Int32)), .val (.int (0 : Int32)), .unset, .unset] [(.int (4 : Int32))])) _
        refine Goes.by (fun _ kz => XS.iconst X0.here hx rfl (hb hby at_158) (XS.icmpNo X0.here hx rfl (hb hby at_159) rfl (teq (by decide : (4 : Int32) = (4 : Int32))).2 kz)) ?_
        obtain ⟨T13, X13, e13, st13⟩ := getS2 X0 hx hZ hown (host := "") (Or.inl (hw _ (List.mem_of_getElem? (i := 29) rfl))) Via.refl e0 P.2.2.2.2.2.2.2.2.2.2.2.2.2.2.1 (g := (mkF m 162 #[.val (.int p1), .val (.int p2), .val (.int p3), .val (.int (4 : Int32)), .val (.int (0 : Int32)), .val (.int (0 : Int32)), .val (.int (1 : Int32)), .val (.int (0 : Int32)), .val (.int (0 : Int32)), .unset, .unset] [])) rfl (hb hby at_162)
        refine Goes.by st13 ?_
        refine Goes.by (fun _ kz => XS.astore X13.here hx rfl (hb hby at_165) rfl rfl (l' := #[.val (.int p1), .val (.int p2), .val (.int p3), .val (.int (4 : Int32)), .val (.int (0 : Int32)), .val (.int (0 : Int32)), .val (.int (1 : Int32)), .val (.int (0 : Int32)), .val (.int (0 : Int32)), .val (.ref (w 7)), .unset]) rfl (XS.iload X13.here hx rfl (hb hby at_167) rfl (XS.ifYes X13.here hx rfl (pc0 := 169) (pc' := 181) rfl (hb hby at_169) rfl ((if0 _ _).trans (teq (by decide : (0 : Int32) = (0 : Int32))).1) (by decide) (by decide) kz))) ?_
        show Goes p e below (T13.setTop (mkF m 181 #[.val (.int p1), .val (.int p2), .val (.int p3), .val (.int (4 : Int32)), .val (.int (0 : Int32)), .val (.int (0 : Int32)), .val (.int (1 : Int32)), .val (.int (0 : Int32)), .val (.int (0 : Int32)), .val (.ref (w 7)), .unset] [])) _
        refine Goes.by (fun _ kz => XS.iconst X13.here hx rfl (hb hby at_181) (XS.istore X13.here hx rfl (hb hby at_182) rfl (l' := #[.val (.int p1), .val (.int p2), .val (.int p3), .val (.int (4 : Int32)), .val (.int (0 : Int32)), .val (.int (0 : Int32)), .val (.int (1 : Int32)), .val (.int (0 : Int32)), .val (.int (0 : Int32)), .val (.ref (w 7)), .val (.int (0 : Int32))]) rfl (XS.goto X13.here hx rfl (pc0 := 184) (pc' := 275) rfl (hb hby at_184) (by decide) (by decide) kz))) ?_
        show Goes p e below (T13.setTop (mkF m 275 #[.val (.int p1), .val (.int p2), .val (.int p3), .val (.int (4 : Int32)), .val (.int (0 : Int32)), .val (.int (0 : Int32)), .val (.int (1 : Int32)), .val (.int (0 : Int32)), .val (.int (0 : Int32)), .val (.ref (w 7)), .val (.int (0 : Int32))] [])) _
        refine Goes.by (fun _ kz => XS.aload X13.here hx rfl (hb hby at_275) rfl rfl (XS.iload X13.here hx rfl (hb hby at_277) rfl (XS.iload X13.here hx rfl (hb hby at_279) rfl kz))) ?_
        obtain ⟨cq15, kq15, q15a, q15b, q15c⟩ := isOf hZ e13 P.2.2.2.2.2.2.2.2.2.2.2.2.2.2.2.1
        obtain ⟨_, _, ⟨T15, L15, k15, n15⟩, -, X15, ⟨Lc15, hQ15, l15, y15, z15⟩, st15⟩ := X13.virtualBack hx (y := (⟨"com/example/entail/entail/model/Scope", "reaches", "(IZ)Z"⟩ : MethodName)) (z := (⟨"com/example/entail/entail/model/Scope", "reaches", "(IZ)Z"⟩ : MethodName)) hown (mvT hZ (hw _ (List.mem_of_getElem? (i := 4) rfl))) (mvT hZ (hw _ (List.mem_of_getElem? (i := 5) rfl))) (notFace_of_selects (args := #[]) (mvT hZ (hw _ (List.mem_of_getElem? (i := 7) rfl)))) (mvT hZ (hw _ (List.mem_of_getElem? (i := 7) rfl))) (mvT hZ (hw _ (List.mem_of_getElem? (i := 6) rfl))) (by decide) (backOf (W := 0) (r1_4 l Z a0 hw [] h0 n0 Z0 w P) hZ (hw _ (List.mem_of_getElem? (i := 8) rfl)) (hw _ (List.mem_of_getElem? (i := 2) rfl)) (by decide) (by decide)) q15a q15c (g := (mkF m 281 #[.val (.int p1), .val (.int p2), .val (.int p3), .val (.int (4 : Int32)), .val (.int (0 : Int32)), .val (.int (0 : Int32)), .val (.int (1 : Int32)), .val (.int (0 : Int32)), .val (.int (0 : Int32)), .val (.ref (w 7)), .val (.int (0 : Int32))] [(.int (0 : Int32)), (.int (0 : Int32)), (.ref (w 7))])) rfl (by rw [hml]; rfl) (Steps.refl _) (argsL := [(.int (0 : Int32)), (.int (0 : Int32))]) (rest := []) (lenOf pd0 rfl) rfl (by show 2 * 0 + _ ≤ _; exact Nat.le_of_eq rfl) (hb hby at_281) (fun _ _ => ⟨rfl, e13, (by decide : 0 + 0 ≤ _), (by decide : 0 + 0 ≤ _)⟩)
        dsimp only [Pt.U, Pt.locs, Pt.cells, Pt.slots] at X15 l15 y15 z15 st15 hQ15
        subst l15 y15 z15
        obtain ⟨rfl, Nq15, e15⟩ := hQ15
        have N15 := Fr.app N0 Nq15
        refine Goes.tr st15 ?_
        refine Goes.by (fun _ kz => XS.iload X15.here hx rfl (hb hby at_284) rfl (XS.icmpNo X15.here hx rfl (hb hby at_286) rfl (teq (by decide : (0 : Int32) = (0 : Int32))).2 (XS.iconst X15.here hx rfl (hb hby at_289) kz))) ?_
        show Goes p e below (T15.setTop (mkF m 290 #[.val (.int p1), .val (.int p2), .val (.int p3), .val (.int (4 : Int32)), .val (.int (0 : Int32)), .val (.int (0 : Int32)), .val (.int (1 : Int32)), .val (.int (0 : Int32)), .val (.int (0 : Int32)), .val (.ref (w 7)), .val (.int (0 : Int32))] [(.int (1 : Int32))])) _
        refine Goes.by (fun _ kz => XS.goto X15.here hx rfl (pc0 := 290) (pc' := 294) rfl (hb hby at_290) (by decide) (by decide) kz) ?_
        show Goes p e below (T15.setTop (mkF m 294 #[.val (.int p1), .val (.int p2), .val (.int p3), .val (.int (4 : Int32)), .val (.int (0 : Int32)), .val (.int (0 : Int32)), .val (.int (1 : Int32)), .val (.int (0 : Int32)), .val (.int (0 : Int32)), .val (.ref (w 7)), .val (.int (0 : Int32))] [(.int (1 : Int32))])) _
        obtain ⟨fs, hr, hrun, hended, hW, hsame⟩ := X15.leave (v := some (.int (1 : Int32))) (fun h => by rw [Bd.returns] at h; cases h)
        exact ⟨_, _, retN X15 hx (t := .boolean) Bd.returns (by simp) (hb hby at_294) hr, hrun, hended, _, _, rfl, ⟨rfl, N15⟩, ⟨_, rfl⟩, hW, hsame.mono (by decide) (by decide)⟩
      · show Goes p e below (s₁.setTop (mkF m 65 #[.val (.int p1), .val (.int p2), .val (.int p3), .val (.int (5 : Int32)), .val (.int (0 : Int32)), .val (.int (0 : Int32)), .val (.int (1 : Int32)), .val (.int (0 : Int32)), .val (.int (0 : Int32)), .unset, .unset] [])) _
        refine Goes.by (fun _ kz => XS.iloadN X0.here hx rfl (hb hby at_65) rfl (XS.ifYes X0.here hx rfl (pc0 := 66) (pc' := 80) rfl (hb hby at_66) rfl ((if0 _ _).trans (feq (by decide : ¬ ((5 : Int32) = (0 : Int32)))).2) (by decide) (by decide) (XS.iloadN X0.here hx rfl (hb hby at_80) rfl kz))) ?_
        show Goes p e below (s₁.setTop (mkF m 81 #[.val (.int p1), .val (.int p2), .val (.int p3), .val (.int (5 : Int32)), .val (.int (0 : Int32)), .val (.int (0 : Int32)), .val (.int (1 : Int32)), .val (.int (0 : Int32)), .val (.int (0 : Int32)), .unset, .unset] [(.int (5 : Int32))])) _
        refine Goes.by (fun _ kz => XS.iconst X0.here hx rfl (hb hby at_81) (XS.icmpYes X0.here hx rfl (pc0 := 82) (pc' := 110) rfl (hb hby at_82) rfl (feq (by decide : ¬ ((5 : Int32) = (1 : Int32)))).2 (by decide) (by decide) (XS.iloadN X0.here hx rfl (hb hby at_110) rfl kz))) ?_
        show Goes p e below (s₁.setTop (mkF m 111 #[.val (.int p1), .val (.int p2), .val (.int p3), .val (.int (5 : Int32)), .val (.int (0 : Int32)), .val (.int (0 : Int32)), .val (.int (1 : Int32)), .val (.int (0 : Int32)), .val (.int (0 : Int32)), .unset, .unset] [(.int (5 : Int32))])) _
        refine Goes.by (fun _ kz => XS.iconst X0.here hx rfl (hb hby at_111) (XS.icmpYes X0.here hx rfl (pc0 := 112) (pc' := 140) rfl (hb hby at_112) rfl (feq (by decide : ¬ ((5 : Int32) = (2 : Int32)))).2 (by decide) (by decide) (XS.iloadN X0.here hx rfl (hb hby at_140) rfl kz))) ?_
        show Goes p e below (s₁.setTop (mkF m 141 #[.val (.int p1), .val (.int p2), .val (.int p3), .val (.int (5 : Int32)), .val (.int (0 : Int32)), .val (.int (0 : Int32)), .val (.int (1 : Int32)), .val (.int (0 : Int32)), .val (.int (0 : Int32)), .unset, .unset] [(.int (5 : Int32))])) _
        refine Goes.by (fun _ kz => XS.iconst X0.here hx rfl (hb hby at_141) (XS.icmpYes X0.here hx rfl (pc0 := 142) (pc' := 157) rfl (hb hby at_142) rfl (feq (by decide : ¬ ((5 : Int32) = (3 : Int32)))).2 (by decide) (by decide) (XS.iloadN X0.here hx rfl (hb hby at_157) rfl kz))) ?_
        show Goes p e below (s₁.setTop (mkF m 158 #[.val (.int p1), .val (.int p2), .val (.int p3), .val (.int (5 : Int32)), .val (.int (0 : Int32)), .val (.int (0 : Int32)), .val (.int (1 : Int32)), .val (.int (0 : Int32)), .val (.int (0 : Int32)), .unset, .unset] [(.int (5 : Int32))])) _
        refine Goes.by (fun _ kz => XS.iconst X0.here hx rfl (hb hby at_158) (XS.icmpYes X0.here hx rfl (pc0 := 159) (pc' := 187) rfl (hb hby at_159) rfl (feq (by decide : ¬ ((5 : Int32) = (4 : Int32)))).2 (by decide) (by decide) (XS.iloadN X0.here hx rfl (hb hby at_187) rfl kz))) ?_
        show Goes p e below (s₁.setTop (mkF m 188 #[.val (.int p1), .val (.int p2), .val (.int p3), .val (.int (5 : Int32)), .val (.int (0 : Int32)), .val (.int (0 : Int32)), .val (.int (1 : Int32)), .val (.int (0 : Int32)), .val (.int (0 : Int32)), .unset, .unset] [(.int (5 : Int32))])) _
        refine Goes.by (fun _ kz => XS.iconst X0.here hx rfl (hb hby at_188) (XS.icmpNo X0.here hx rfl (hb hby at_189) rfl (teq (by decide : (5 : Int32) = (5 : Int32))).2 kz)) ?_
        obtain ⟨T16, X16, e16, st16⟩ := getS2 X0 hx hZ hown (host := "") (Or.inl (hw _ (List.mem_of_getElem? (i := 31) rfl))) Via.refl e0 P.2.2.2.2.2.2.2.2.2.2.2.2.2.2.2.2.1 (g := (mkF m 192 #[.val (.int p1), .val (.int p2), .val (.int p3), .val (.int (5 : Int32)), .val (.int (0 : Int32)), .val (.int (0 : Int32)), .val (.int (1 : Int32)), .val (.int (0 : Int32)), .val (.int (0 : Int32)), .unset, .unset] [])) rfl (hb hby at_192)
        refine Goes.by st16 ?_
        refine Goes.by (fun _ kz => XS.astore X16.here hx rfl (hb hby at_195) rfl rfl (l' := #[.val (.int p1), .val (.int p2), .val (.int p3), .val (.int (5 : Int32)), .val (.int (0 : Int32)), .val (.int (0 : Int32)), .val (.int (1 : Int32)), .val (.int (0 : Int32)), .val (.int (0 : Int32)), .val (.ref (w 8)), .unset]) rfl (XS.iload X16.here hx rfl (hb hby at_197) rfl (XS.ifYes X16.here hx rfl (pc0 := 199) (pc' := 211) rfl (hb hby at_199) rfl ((if0 _ _).trans (teq (by decide : (0 : Int32) = (0 : Int32))).1) (by decide) (by decide) kz))) ?_
        show Goes p e below (T16.setTop (mkF m 211 #[.val (.int p1), .val (.int p2), .val (.int p3), .val (.int (5 : Int32)), .val (.int (0 : Int32)), .val (.int (0 : Int32)), .val (.int (1 : Int32)), .val (.int (0 : Int32)), .val (.int (0 : Int32)), .val (.ref (w 8)), .unset] [])) _
        refine Goes.by (fun _ kz => XS.iconst X16.here hx rfl (hb hby at_211) (XS.istore X16.here hx rfl (hb hby at_212) rfl (l' := #[.val (.int p1), .val (.int p2), .val (.int p3), .val (.int (5 : Int32)), .val (.int (0 : Int32)), .val (.int (0 : Int32)), .val (.int (1 : Int32)), .val (.int (0 : Int32)), .val (.int (0 : Int32)), .val (.ref (w 8)), .val (.int (0 : Int32))]) rfl (XS.goto X16.here hx rfl (pc0 := 214) (pc' := 275) rfl (hb hby at_214) (by decide) (by decide) kz))) ?_
        show Goes p e below (T16.setTop (mkF m 275 #[.val (.int p1), .val (.int p2), .val (.int p3), .val (.int (5 : Int32)), .val (.int (0 : Int32)), .val (.int (0 : Int32)), .val (.int (1 : Int32)), .val (.int (0 : Int32)), .val (.int (0 : Int32)), .val (.ref (w 8)), .val (.int (0 : Int32))] [])) _
        refine Goes.by (fun _ kz => XS.aload X16.here hx rfl (hb hby at_275) rfl rfl (XS.iload X16.here hx rfl (hb hby at_277) rfl (XS.iload X16.here hx rfl (hb hby at_279) rfl kz))) ?_
        obtain ⟨cq18, kq18, q18a, q18b, q18c⟩ := isOf hZ e16 P.2.2.2.2.2.2.2.2.2.2.2.2.2.2.2.2.2.1
        obtain ⟨_, _, ⟨T18, L18, k18, n18⟩, -, X18, ⟨Lc18, hQ18, l18, y18, z18⟩, st18⟩ := X16.virtualBack hx (y := (⟨"com/example/entail/entail/model/Scope", "reaches", "(IZ)Z"⟩ : MethodName)) (z := (⟨"com/example/entail/entail/model/Scope", "reaches", "(IZ)Z"⟩ : MethodName)) hown (mvT hZ (hw _ (List.mem_of_getElem? (i := 4) rfl))) (mvT hZ (hw _ (List.mem_of_getElem? (i := 5) rfl))) (notFace_of_selects (args := #[]) (mvT hZ (hw _ (List.mem_of_getElem? (i := 7) rfl)))) (mvT hZ (hw _ (List.mem_of_getElem? (i := 7) rfl))) (mvT hZ (hw _ (List.mem_of_getElem? (i := 6) rfl))) (by decide) (backOf (W := 0) (r1_5 l Z a0 hw [] h0 n0 Z0 w P) hZ (hw _ (List.mem_of_getElem? (i := 8) rfl)) (hw _ (List.mem_of_getElem? (i := 2) rfl)) (by decide) (by decide)) q18a q18c (g := (mkF m 281 #[.val (.int p1), .val (.int p2), .val (.int p3), .val (.int (5 : Int32)), .val (.int (0 : Int32)), .val (.int (0 : Int32)), .val (.int (1 : Int32)), .val (.int (0 : Int32)), .val (.int (0 : Int32)), .val (.ref (w 8)), .val (.int (0 : Int32))] [(.int (0 : Int32)), (.int (0 : Int32)), (.ref (w 8))])) rfl (by rw [hml]; rfl) (Steps.refl _) (argsL := [(.int (0 : Int32)), (.int (0 : Int32))]) (rest := []) (lenOf pd0 rfl) rfl (by show 2 * 0 + _ ≤ _; exact Nat.le_of_eq rfl) (hb hby at_281) (fun _ _ => ⟨rfl, e16, (by decide : 0 + 0 ≤ _), (by decide : 0 + 0 ≤ _)⟩)
        dsimp only [Pt.U, Pt.locs, Pt.cells, Pt.slots] at X18 l18 y18 z18 st18 hQ18
        subst l18 y18 z18
        obtain ⟨rfl, Nq18, e18⟩ := hQ18
        have N18 := Fr.app N0 Nq18
        refine Goes.tr st18 ?_
        refine Goes.by (fun _ kz => XS.iload X18.here hx rfl (hb hby at_284) rfl (XS.icmpNo X18.here hx rfl (hb hby at_286) rfl (teq (by decide : (0 : Int32) = (0 : Int32))).2 (XS.iconst X18.here hx rfl (hb hby at_289) kz))) ?_
        show Goes p e below (T18.setTop (mkF m 290 #[.val (.int p1), .val (.int p2), .val (.int p3), .val (.int (5 : Int32)), .val (.int (0 : Int32)), .val (.int (0 : Int32)), .val (.int (1 : Int32)), .val (.int (0 : Int32)), .val (.int (0 : Int32)), .val (.ref (w 8)), .val (.int (0 : Int32))] [(.int (1 : Int32))])) _
        refine Goes.by (fun _ kz => XS.goto X18.here hx rfl (pc0 := 290) (pc' := 294) rfl (hb hby at_290) (by decide) (by decide) kz) ?_
        show Goes p e below (T18.setTop (mkF m 294 #[.val (.int p1), .val (.int p2), .val (.int p3), .val (.int (5 : Int32)), .val (.int (0 : Int32)), .val (.int (0 : Int32)), .val (.int (1 : Int32)), .val (.int (0 : Int32)), .val (.int (0 : Int32)), .val (.ref (w 8)), .val (.int (0 : Int32))] [(.int (1 : Int32))])) _
        obtain ⟨fs, hr, hrun, hended, hW, hsame⟩ := X18.leave (v := some (.int (1 : Int32))) (fun h => by rw [Bd.returns] at h; cases h)
        exact ⟨_, _, retN X18 hx (t := .boolean) Bd.returns (by simp) (hb hby at_294) hr, hrun, hended, _, _, rfl, ⟨rfl, N18⟩, ⟨_, rfl⟩, hW, hsame.mono (by decide) (by decide)⟩
      · show Goes p e below (s₁.setTop (mkF m 65 #[.val (.int p1), .val (.int p2), .val (.int p3), .val (.int (6 : Int32)), .val (.int (0 : Int32)), .val (.int (0 : Int32)), .val (.int (1 : Int32)), .val (.int (0 : Int32)), .val (.int (0 : Int32)), .unset, .unset] [])) _
        refine Goes.by (fun _ kz => XS.iloadN X0.here hx rfl (hb hby at_65) rfl (XS.ifYes X0.here hx rfl (pc0 := 66) (pc' := 80) rfl (hb hby at_66) rfl ((if0 _ _).trans (feq (by decide : ¬ ((6 : Int32) = (0 : Int32)))).2) (by decide) (by decide) (XS.iloadN X0.here hx rfl (hb hby at_80) rfl kz))) ?_
        show Goes p e below (s₁.setTop (mkF m 81 #[.val (.int p1), .val (.int p2), .val (.int p3), .val (.int (6 : Int32)), .val (.int (0 : Int32)), .val (.int (0 : Int32)), .val (.int (1 : Int32)), .val (.int (0 : Int32)), .val (.int (0 : Int32)), .unset, .unset] [(.int (6 : Int32))])) _
        refine Goes.by (fun _ kz => XS.iconst X0.here hx rfl (hb hby at_81) (XS.icmpYes X0.here hx rfl (pc0 := 82) (pc' := 110) rfl (hb hby at_82) rfl (feq (by decide : ¬ ((6 : Int32) = (1 : Int32)))).2 (by decide) (by decide) (XS.iloadN X0.here hx rfl (hb hby at_110) rfl kz))) ?_
        show Goes p e below (s₁.setTop (mkF m 111 #[.val (.int p1), .val (.int p2), .val (.int p3), .val (.int (6 : Int32)), .val (.int (0 : Int32)), .val (.int (0 : Int32)), .val (.int (1 : Int32)), .val (.int (0 : Int32)), .val (.int (0 : Int32)), .unset, .unset] [(.int (6 : Int32))])) _
        refine Goes.by (fun _ kz => XS.iconst X0.here hx rfl (hb hby at_111) (XS.icmpYes X0.here hx rfl (pc0 := 112) (pc' := 140) rfl (hb hby at_112) rfl (feq (by decide : ¬ ((6 : Int32) = (2 : Int32)))).2 (by decide) (by decide) (XS.iloadN X0.here hx rfl (hb hby at_140) rfl kz))) ?_
        show Goes p e below (s₁.setTop (mkF m 141 #[.val (.int p1), .val (.int p2), .val (.int p3), .val (.int (6 : Int32)), .val (.int (0 : Int32)), .val (.int (0 : Int32)), .val (.int (1 : Int32)), .val (.int (0 : Int32)), .val (.int (0 : Int32)), .unset, .unset] [(.int (6 : Int32))])) _
        refine Goes.by (fun _ kz => XS.iconst X0.here hx rfl (hb hby at_141) (XS.icmpYes X0.here hx rfl (pc0 := 142) (pc' := 157) rfl (hb hby at_142) rfl (feq (by decide : ¬ ((6 : Int32) = (3 : Int32)))).2 (by decide) (by decide) (XS.iloadN X0.here hx rfl (hb hby at_157) rfl kz))) ?_
        show Goes p e below (s₁.setTop (mkF m 158 #[.val (.int p1), .val (.int p2), .val (.int p3), .val (.int (6 : Int32)), .val (.int (0 : Int32)), .val (.int (0 : Int32)), .val (.int (1 : Int32)), .val (.int (0 : Int32)), .val (.int (0 : Int32)), .unset, .unset] [(.int (6 : Int32))])) _
        refine Goes.by (fun _ kz => XS.iconst X0.here hx rfl (hb hby at_158) (XS.icmpYes X0.here hx rfl (pc0 := 159) (pc' := 187) rfl (hb hby at_159) rfl (feq (by decide : ¬ ((6 : Int32) = (4 : Int32)))).2 (by decide) (by decide) (XS.iloadN X0.here hx rfl (hb hby at_187) rfl kz))) ?_
        show Goes p e below (s₁.setTop (mkF m 188 #[.val (.int p1), .val (.int p2), .val (.int p3), .val (.int (6 : Int32)), .val (.int (0 : Int32)), .val (.int (0 : Int32)), .val (.int (1 : Int32)), .val (.int (0 : Int32)), .val (.int (0 : Int32)), .unset, .unset] [(.int (6 : Int32))])) _
        refine Goes.by (fun _ kz => XS.iconst X0.here hx rfl (hb hby at_188) (XS.icmpYes X0.here hx rfl (pc0 := 189) (pc' := 217) rfl (hb hby at_189) rfl (feq (by decide : ¬ ((6 : Int32) = (5 : Int32)))).2 (by decide) (by decide) (XS.iloadN X0.here hx rfl (hb hby at_217) rfl kz))) ?_
        show Goes p e below (s₁.setTop (mkF m 218 #[.val (.int p1), .val (.int p2), .val (.int p3), .val (.int (6 : Int32)), .val (.int (0 : Int32)), .val (.int (0 : Int32)), .val (.int (1 : Int32)), .val (.int (0 : Int32)), .val (.int (0 : Int32)), .unset, .unset] [(.int (6 : Int32))])) _
        refine Goes.by (fun _ kz => XS.bipush X0.here hx rfl (hb hby at_218) (XS.icmpNo X0.here hx rfl (hb hby at_220) rfl (teq (by decide : (6 : Int32) = (6 : Int32))).2 kz)) ?_
        obtain ⟨T19, X19, e19, st19⟩ := getS2 X0 hx hZ hown (host := "") (Or.inl (hw _ (List.mem_of_getElem? (i := 21) rfl))) Via.refl e0 P.2.2.2.2.2.2.2.2.1 (g := (mkF m 223 #[.val (.int p1), .val (.int p2), .val (.int p3), .val (.int (6 : Int32)), .val (.int (0 : Int32)), .val (.int (0 : Int32)), .val (.int (1 : Int32)), .val (.int (0 : Int32)), .val (.int (0 : Int32)), .unset, .unset] [])) rfl (hb hby at_223)
        refine Goes.by st19 ?_
        refine Goes.by (fun _ kz => XS.astore X19.here hx rfl (hb hby at_226) rfl rfl (l' := #[.val (.int p1), .val (.int p2), .val (.int p3), .val (.int (6 : Int32)), .val (.int (0 : Int32)), .val (.int (0 : Int32)), .val (.int (1 : Int32)), .val (.int (0 : Int32)), .val (.int (0 : Int32)), .val (.ref (w 4)), .unset]) rfl (XS.iload X19.here hx rfl (hb hby at_228) rfl (XS.istore X19.here hx rfl (hb hby at_230) rfl (l' := #[.val (.int p1), .val (.int p2), .val (.int p3), .val (.int (6 : Int32)), .val (.int (0 : Int32)), .val (.int (0 : Int32)), .val (.int (1 : Int32)), .val (.int (0 : Int32)), .val (.int (0 : Int32)), .val (.ref (w 4)), .val (.int (0 : Int32))]) rfl kz))) ?_
        show Goes p e below (T19.setTop (mkF m 232 #[.val (.int p1), .val (.int p2), .val (.int p3), .val (.int (6 : Int32)), .val (.int (0 : Int32)), .val (.int (0 : Int32)), .val (.int (1 : Int32)), .val (.int (0 : Int32)), .val (.int (0 : Int32)), .val (.ref (w 4)), .val (.int (0 : Int32))] [])) _
        refine Goes.by (fun _ kz => XS.goto X19.here hx rfl (pc0 := 232) (pc' := 275) rfl (hb hby at_232) (by decide) (by decide) (XS.aload X19.here hx rfl (hb hby at_275) rfl rfl (XS.iload X19.here hx rfl (hb hby at_277) rfl kz))) ?_
        show Goes p e below (T19.setTop (mkF m 279 #[.val (.int p1), .val (.int p2), .val (.int p3), .val (.int (6 : Int32)), .val (.int (0 : Int32)), .val (.int (0 : Int32)), .val (.int (1 : Int32)), .val (.int (0 : Int32)), .val (.int (0 : Int32)), .val (.ref (w 4)), .val (.int (0 : Int32))] [(.int (0 : Int32)), (.ref (w 4))])) _
        refine Goes.by (fun _ kz => XS.iload X19.here hx rfl (hb hby at_279) rfl kz) ?_
        obtain ⟨cq21, kq21, q21a, q21b, q21c⟩ := isOf hZ e19 P.2.2.2.2.2.2.2.2.2.1
        obtain ⟨_, _, ⟨T21, L21, k21, n21⟩, -, X21, ⟨Lc21, hQ21, l21, y21, z21⟩, st21⟩ := X19.virtualBack hx (y := (⟨"com/example/entail/entail/model/Scope", "reaches", "(IZ)Z"⟩ : MethodName)) (z := (⟨"com/example/entail/entail/model/Scope", "reaches", "(IZ)Z"⟩ : MethodName)) hown (mvT hZ (hw _ (List.mem_of_getElem? (i := 4) rfl))) (mvT hZ (hw _ (List.mem_of_getElem? (i := 5) rfl))) (notFace_of_selects (args := #[]) (mvT hZ (hw _ (List.mem_of_getElem? (i := 7) rfl)))) (mvT hZ (hw _ (List.mem_of_getElem? (i := 7) rfl))) (mvT hZ (hw _ (List.mem_of_getElem? (i := 6) rfl))) (by decide) (backOf (W := 0) (r1_6 l Z a0 hw [] h0 n0 Z0 w P) hZ (hw _ (List.mem_of_getElem? (i := 8) rfl)) (hw _ (List.mem_of_getElem? (i := 2) rfl)) (by decide) (by decide)) q21a q21c (g := (mkF m 281 #[.val (.int p1), .val (.int p2), .val (.int p3), .val (.int (6 : Int32)), .val (.int (0 : Int32)), .val (.int (0 : Int32)), .val (.int (1 : Int32)), .val (.int (0 : Int32)), .val (.int (0 : Int32)), .val (.ref (w 4)), .val (.int (0 : Int32))] [(.int (0 : Int32)), (.int (0 : Int32)), (.ref (w 4))])) rfl (by rw [hml]; rfl) (Steps.refl _) (argsL := [(.int (0 : Int32)), (.int (0 : Int32))]) (rest := []) (lenOf pd0 rfl) rfl (by show 2 * 0 + _ ≤ _; exact Nat.le_of_eq rfl) (hb hby at_281) (fun _ _ => ⟨rfl, e19, (by decide : 0 + 0 ≤ _), (by decide : 0 + 0 ≤ _)⟩)
        dsimp only [Pt.U, Pt.locs, Pt.cells, Pt.slots] at X21 l21 y21 z21 st21 hQ21
        subst l21 y21 z21
        obtain ⟨rfl, Nq21, e21⟩ := hQ21
        have N21 := Fr.app N0 Nq21
        refine Goes.tr st21 ?_
        refine Goes.by (fun _ kz => XS.iload X21.here hx rfl (hb hby at_284) rfl (XS.icmpNo X21.here hx rfl (hb hby at_286) rfl (teq (by decide : (0 : Int32) = (0 : Int32))).2 (XS.iconst X21.here hx rfl (hb hby at_289) kz))) ?_
        show Goes p e below (T21.setTop (mkF m 290 #[.val (.int p1), .val (.int p2), .val (.int p3), .val (.int (6 : Int32)), .val (.int (0 : Int32)), .val (.int (0 : Int32)), .val (.int (1 : Int32)), .val (.int (0 : Int32)), .val (.int (0 : Int32)), .val (.ref (w 4)), .val (.int (0 : Int32))] [(.int (1 : Int32))])) _
        refine Goes.by (fun _ kz => XS.goto X21.here hx rfl (pc0 := 290) (pc' := 294) rfl (hb hby at_290) (by decide) (by decide) kz) ?_
        show Goes p e below (T21.setTop (mkF m 294 #[.val (.int p1), .val (.int p2), .val (.int p3), .val (.int (6 : Int32)), .val (.int (0 : Int32)), .val (.int (0 : Int32)), .val (.int (1 : Int32)), .val (.int (0 : Int32)), .val (.int (0 : Int32)), .val (.ref (w 4)), .val (.int (0 : Int32))] [(.int (1 : Int32))])) _
        obtain ⟨fs, hr, hrun, hended, hW, hsame⟩ := X21.leave (v := some (.int (1 : Int32))) (fun h => by rw [Bd.returns] at h; cases h)
        exact ⟨_, _, retN X21 hx (t := .boolean) Bd.returns (by simp) (hb hby at_294) hr, hrun, hended, _, _, rfl, ⟨rfl, N21⟩, ⟨_, rfl⟩, hW, hsame.mono (by decide) (by decide)⟩
      · show Goes p e below (s₁.setTop (mkF m 65 #[.val (.int p1), .val (.int p2), .val (.int p3), .val (.int (7 : Int32)), .val (.int (0 : Int32)), .val (.int (0 : Int32)), .val (.int (1 : Int32)), .val (.int (0 : Int32)), .val (.int (0 : Int32)), .unset, .unset] [])) _
        refine Goes.by (fun _ kz => XS.iloadN X0.here hx rfl (hb hby at_65) rfl (XS.ifYes X0.here hx rfl (pc0 := 66) (pc' := 80) rfl (hb hby at_66) rfl ((if0 _ _).trans (feq (by decide : ¬ ((7 : Int32) = (0 : Int32)))).2) (by decide) (by decide) (XS.iloadN X0.here hx rfl (hb hby at_80) rfl kz))) ?_
        show Goes p e below (s₁.setTop (mkF m 81 #[.val (.int p1), .val (.int p2), .val (.int p3), .val (.int (7 : Int32)), .val (.int (0 : Int32)), .val (.int (0 : Int32)), .val (.int (1 : Int32)), .val (.int (0 : Int32)), .val (.int (0 : Int32)), .unset, .unset] [(.int (7 : Int32))])) _
        refine Goes.by (fun _ kz => XS.iconst X0.here hx rfl (hb hby at_81) (XS.icmpYes X0.here hx rfl (pc0 := 82) (pc' := 110) rfl (hb hby at_82) rfl (feq (by decide : ¬ ((7 : Int32) = (1 : Int32)))).2 (by decide) (by decide) (XS.iloadN X0.here hx rfl (hb hby at_110) rfl kz))) ?_
        show Goes p e below (s₁.setTop (mkF m 111 #[.val (.int p1), .val (.int p2), .val (.int p3), .val (.int (7 : Int32)), .val (.int (0 : Int32)), .val (.int (0 : Int32)), .val (.int (1 : Int32)), .val (.int (0 : Int32)), .val (.int (0 : Int32)), .unset, .unset] [(.int (7 : Int32))])) _
        refine Goes.by (fun _ kz => XS.iconst X0.here hx rfl (hb hby at_111) (XS.icmpYes X0.here hx rfl (pc0 := 112) (pc' := 140) rfl (hb hby at_112) rfl (feq (by decide : ¬ ((7 : Int32) = (2 : Int32)))).2 (by decide) (by decide) (XS.iloadN X0.here hx rfl (hb hby at_140) rfl kz))) ?_
        show Goes p e below (s₁.setTop (mkF m 141 #[.val (.int p1), .val (.int p2), .val (.int p3), .val (.int (7 : Int32)), .val (.int (0 : Int32)), .val (.int (0 : Int32)), .val (.int (1 : Int32)), .val (.int (0 : Int32)), .val (.int (0 : Int32)), .unset, .unset] [(.int (7 : Int32))])) _
        refine Goes.by (fun _ kz => XS.iconst X0.here hx rfl (hb hby at_141) (XS.icmpYes X0.here hx rfl (pc0 := 142) (pc' := 157) rfl (hb hby at_142) rfl (feq (by decide : ¬ ((7 : Int32) = (3 : Int32)))).2 (by decide) (by decide) (XS.iloadN X0.here hx rfl (hb hby at_157) rfl kz))) ?_
        show Goes p e below (s₁.setTop (mkF m 158 #[.val (.int p1), .val (.int p2), .val (.int p3), .val (.int (7 : Int32)), .val (.int (0 : Int32)), .val (.int (0 : Int32)), .val (.int (1 : Int32)), .val (.int (0 : Int32)), .val (.int (0 : Int32)), .unset, .unset] [(.int (7 : Int32))])) _
        refine Goes.by (fun _ kz => XS.iconst X0.here hx rfl (hb hby at_158) (XS.icmpYes X0.here hx rfl (pc0 := 159) (pc' := 187) rfl (hb hby at_159) rfl (feq (by decide : ¬ ((7 : Int32) = (4 : Int32)))).2 (by decide) (by decide) (XS.iloadN X0.here hx rfl (hb hby at_187) rfl kz))) ?_
        show Goes p e below (s₁.setTop (mkF m 188 #[.val (.int p1), .val (.int p2), .val (.int p3), .val (.int (7 : Int32)), .val (.int (0 : Int32)), .val (.int (0 : Int32)), .val (.int (1 : Int32)), .val (.int (0 : Int32)), .val (.int (0 : Int32)), .unset, .unset] [(.int (7 : Int32))])) _
        refine Goes.by (fun _ kz => XS.iconst X0.here hx rfl (hb hby at_188) (XS.icmpYes X0.here hx rfl (pc0 := 189) (pc' := 217) rfl (hb hby at_189) rfl (feq (by decide : ¬ ((7 : Int32) = (5 : Int32)))).2 (by decide) (by decide) (XS.iloadN X0.here hx rfl (hb hby at_217) rfl kz))) ?_
        show Goes p e below (s₁.setTop (mkF m 218 #[.val (.int p1), .val (.int p2), .val (.int p3), .val (.int (7 : Int32)), .val (.int (0 : Int32)), .val (.int (0 : Int32)), .val (.int (1 : Int32)), .val (.int (0 : Int32)), .val (.int (0 : Int32)), .unset, .unset] [(.int (7 : Int32))])) _
        refine Goes.by (fun _ kz => XS.bipush X0.here hx rfl (hb hby at_218) (XS.icmpYes X0.here hx rfl (pc0 := 220) (pc' := 235) rfl (hb hby at_220) rfl (feq (by decide : ¬ ((7 : Int32) = (6 : Int32)))).2 (by decide) (by decide) (XS.iloadN X0.here hx rfl (hb hby at_235) rfl kz))) ?_
        show Goes p e below (s₁.setTop (mkF m 236 #[.val (.int p1), .val (.int p2), .val (.int p3), .val (.int (7 : Int32)), .val (.int (0 : Int32)), .val (.int (0 : Int32)), .val (.int (1 : Int32)), .val (.int (0 : Int32)), .val (.int (0 : Int32)), .unset, .unset] [(.int (7 : Int32))])) _
        refine Goes.by (fun _ kz => XS.bipush X0.here hx rfl (hb hby at_236) (XS.icmpNo X0.here hx rfl (hb hby at_238) rfl (teq (by decide : (7 : Int32) = (7 : Int32))).2 kz)) ?_
        obtain ⟨T22, X22, e22, st22⟩ := getS2 X0 hx hZ hown (host := "") (Or.inl (hw _ (List.mem_of_getElem? (i := 23) rfl))) Via.refl e0 P.2.2.2.2.2.2.2.2.2.2.1 (g := (mkF m 241 #[.val (.int p1), .val (.int p2), .val (.int p3), .val (.int (7 : Int32)), .val (.int (0 : Int32)), .val (.int (0 : Int32)), .val (.int (1 : Int32)), .val (.int (0 : Int32)), .val (.int (0 : Int32)), .unset, .unset] [])) rfl (hb hby at_241)
        refine Goes.by st22 ?_
        refine Goes.by (fun _ kz => XS.astore X22.here hx rfl (hb hby at_244) rfl rfl (l' := #[.val (.int p1), .val (.int p2), .val (.int p3), .val (.int (7 : Int32)), .val (.int (0 : Int32)), .val (.int (0 : Int32)), .val (.int (1 : Int32)), .val (.int (0 : Int32)), .val (.int (0 : Int32)), .val (.ref (w 5)), .unset]) rfl (XS.iload X22.here hx rfl (hb hby at_246) rfl (XS.ifYes X22.here hx rfl (pc0 := 248) (pc' := 260) rfl (hb hby at_248) rfl ((if0 _ _).trans (teq (by decide : (0 : Int32) = (0 : Int32))).1) (by decide) (by decide) kz))) ?_
        show Goes p e below (T22.setTop (mkF m 260 #[.val (.int p1), .val (.int p2), .val (.int p3), .val (.int (7 : Int32)), .val (.int (0 : Int32)), .val (.int (0 : Int32)), .val (.int (1 : Int32)), .val (.int (0 : Int32)), .val (.int (0 : Int32)), .val (.ref (w 5)), .unset] [])) _
        refine Goes.by (fun _ kz => XS.iconst X22.here hx rfl (hb hby at_260) (XS.istore X22.here hx rfl (hb hby at_261) rfl (l' := #[.val (.int p1), .val (.int p2), .val (.int p3), .val (.int (7 : Int32)), .val (.int (0 : Int32)), .val (.int (0 : Int32)), .val (.int (1 : Int32)), .val (.int (0 : Int32)), .val (.int (0 : Int32)), .val (.ref (w 5)), .val (.int (0 : Int32))]) rfl (XS.goto X22.here hx rfl (pc0 := 263) (pc' := 275) rfl (hb hby at_263) (by decide) (by decide) kz))) ?_
        show Goes p e below (T22.setTop (mkF m 275 #[.val (.int p1), .val (.int p2), .val (.int p3), .val (.int (7 : Int32)), .val (.int (0 : Int32)), .val (.int (0 : Int32)), .val (.int (1 : Int32)), .val (.int (0 : Int32)), .val (.int (0 : Int32)), .val (.ref (w 5)), .val (.int (0 : Int32))] [])) _
        refine Goes.by (fun _ kz => XS.aload X22.here hx rfl (hb hby at_275) rfl rfl (XS.iload X22.here hx rfl (hb hby at_277) rfl (XS.iload X22.here hx rfl (hb hby at_279) rfl kz))) ?_
        obtain ⟨cq24, kq24, q24a, q24b, q24c⟩ := isOf hZ e22 P.2.2.2.2.2.2.2.2.2.2.2.1
        obtain ⟨_, _, ⟨T24, L24, k24, n24⟩, -, X24, ⟨Lc24, hQ24, l24, y24, z24⟩, st24⟩ := X22.virtualBack hx (y := (⟨"com/example/entail/entail/model/Scope", "reaches", "(IZ)Z"⟩ : MethodName)) (z := (⟨"com/example/entail/entail/model/Scope", "reaches", "(IZ)Z"⟩ : MethodName)) hown (mvT hZ (hw _ (List.mem_of_getElem? (i := 4) rfl))) (mvT hZ (hw _ (List.mem_of_getElem? (i := 5) rfl))) (notFace_of_selects (args := #[]) (mvT hZ (hw _ (List.mem_of_getElem? (i := 7) rfl)))) (mvT hZ (hw _ (List.mem_of_getElem? (i := 7) rfl))) (mvT hZ (hw _ (List.mem_of_getElem? (i := 6) rfl))) (by decide) (backOf (W := 0) (r1_7 l Z a0 hw [] h0 n0 Z0 w P) hZ (hw _ (List.mem_of_getElem? (i := 8) rfl)) (hw _ (List.mem_of_getElem? (i := 2) rfl)) (by decide) (by decide)) q24a q24c (g := (mkF m 281 #[.val (.int p1), .val (.int p2), .val (.int p3), .val (.int (7 : Int32)), .val (.int (0 : Int32)), .val (.int (0 : Int32)), .val (.int (1 : Int32)), .val (.int (0 : Int32)), .val (.int (0 : Int32)), .val (.ref (w 5)), .val (.int (0 : Int32))] [(.int (0 : Int32)), (.int (0 : Int32)), (.ref (w 5))])) rfl (by rw [hml]; rfl) (Steps.refl _) (argsL := [(.int (0 : Int32)), (.int (0 : Int32))]) (rest := []) (lenOf pd0 rfl) rfl (by show 2 * 0 + _ ≤ _; exact Nat.le_of_eq rfl) (hb hby at_281) (fun _ _ => ⟨rfl, e22, (by decide : 0 + 0 ≤ _), (by decide : 0 + 0 ≤ _)⟩)
        dsimp only [Pt.U, Pt.locs, Pt.cells, Pt.slots] at X24 l24 y24 z24 st24 hQ24
        subst l24 y24 z24
        obtain ⟨rfl, Nq24, e24⟩ := hQ24
        have N24 := Fr.app N0 Nq24
        refine Goes.tr st24 ?_
        refine Goes.by (fun _ kz => XS.iload X24.here hx rfl (hb hby at_284) rfl (XS.icmpNo X24.here hx rfl (hb hby at_286) rfl (teq (by decide : (0 : Int32) = (0 : Int32))).2 (XS.iconst X24.here hx rfl (hb hby at_289) kz))) ?_
        show Goes p e below (T24.setTop (mkF m 290 #[.val (.int p1), .val (.int p2), .val (.int p3), .val (.int (7 : Int32)), .val (.int (0 : Int32)), .val (.int (0 : Int32)), .val (.int (1 : Int32)), .val (.int (0 : Int32)), .val (.int (0 : Int32)), .val (.ref (w 5)), .val (.int (0 : Int32))] [(.int (1 : Int32))])) _
        refine Goes.by (fun _ kz => XS.goto X24.here hx rfl (pc0 := 290) (pc' := 294) rfl (hb hby at_290) (by decide) (by decide) kz) ?_
        show Goes p e below (T24.setTop (mkF m 294 #[.val (.int p1), .val (.int p2), .val (.int p3), .val (.int (7 : Int32)), .val (.int (0 : Int32)), .val (.int (0 : Int32)), .val (.int (1 : Int32)), .val (.int (0 : Int32)), .val (.int (0 : Int32)), .val (.ref (w 5)), .val (.int (0 : Int32))] [(.int (1 : Int32))])) _
        obtain ⟨fs, hr, hrun, hended, hW, hsame⟩ := X24.leave (v := some (.int (1 : Int32))) (fun h => by rw [Bd.returns] at h; cases h)
        exact ⟨_, _, retN X24 hx (t := .boolean) Bd.returns (by simp) (hb hby at_294) hr, hrun, hended, _, _, rfl, ⟨rfl, N24⟩, ⟨_, rfl⟩, hW, hsame.mono (by decide) (by decide)⟩
      · show Goes p e below (s₁.setTop (mkF m 65 #[.val (.int p1), .val (.int p2), .val (.int p3), .val (.int (8 : Int32)), .val (.int (0 : Int32)), .val (.int (0 : Int32)), .val (.int (1 : Int32)), .val (.int (0 : Int32)), .val (.int (0 : Int32)), .unset, .unset] [])) _
        refine Goes.by (fun _ kz => XS.iloadN X0.here hx rfl (hb hby at_65) rfl (XS.ifYes X0.here hx rfl (pc0 := 66) (pc' := 80) rfl (hb hby at_66) rfl ((if0 _ _).trans (feq (by decide : ¬ ((8 : Int32) = (0 : Int32)))).2) (by decide) (by decide) (XS.iloadN X0.here hx rfl (hb hby at_80) rfl kz))) ?_
        show Goes p e below (s₁.setTop (mkF m 81 #[.val (.int p1), .val (.int p2), .val (.int p3), .val (.int (8 : Int32)), .val (.int (0 : Int32)), .val (.int (0 : Int32)), .val (.int (1 : Int32)), .val (.int (0 : Int32)), .val (.int (0 : Int32)), .unset, .unset] [(.int (8 : Int32))])) _
        refine Goes.by (fun _ kz => XS.iconst X0.here hx rfl (hb hby at_81) (XS.icmpYes X0.here hx rfl (pc0 := 82) (pc' := 110) rfl (hb hby at_82) rfl (feq (by decide : ¬ ((8 : Int32) = (1 : Int32)))).2 (by decide) (by decide) (XS.iloadN X0.here hx rfl (hb hby at_110) rfl kz))) ?_
        show Goes p e below (s₁.setTop (mkF m 111 #[.val (.int p1), .val (.int p2), .val (.int p3), .val (.int (8 : Int32)), .val (.int (0 : Int32)), .val (.int (0 : Int32)), .val (.int (1 : Int32)), .val (.int (0 : Int32)), .val (.int (0 : Int32)), .unset, .unset] [(.int (8 : Int32))])) _
        refine Goes.by (fun _ kz => XS.iconst X0.here hx rfl (hb hby at_111) (XS.icmpYes X0.here hx rfl (pc0 := 112) (pc' := 140) rfl (hb hby at_112) rfl (feq (by decide : ¬ ((8 : Int32) = (2 : Int32)))).2 (by decide) (by decide) (XS.iloadN X0.here hx rfl (hb hby at_140) rfl kz))) ?_
        show Goes p e below (s₁.setTop (mkF m 141 #[.val (.int p1), .val (.int p2), .val (.int p3), .val (.int (8 : Int32)), .val (.int (0 : Int32)), .val (.int (0 : Int32)), .val (.int (1 : Int32)), .val (.int (0 : Int32)), .val (.int (0 : Int32)), .unset, .unset] [(.int (8 : Int32))])) _
        refine Goes.by (fun _ kz => XS.iconst X0.here hx rfl (hb hby at_141) (XS.icmpYes X0.here hx rfl (pc0 := 142) (pc' := 157) rfl (hb hby at_142) rfl (feq (by decide : ¬ ((8 : Int32) = (3 : Int32)))).2 (by decide) (by decide) (XS.iloadN X0.here hx rfl (hb hby at_157) rfl kz))) ?_
        show Goes p e below (s₁.setTop (mkF m 158 #[.val (.int p1), .val (.int p2), .val (.int p3), .val (.int (8 : Int32)), .val (.int (0 : Int32)), .val (.int (0 : Int32)), .val (.int (1 : Int32)), .val (.int (0 : Int32)), .val (.int (0 : Int32)), .unset, .unset] [(.int (8 : Int32))])) _
        refine Goes.by (fun _ kz => XS.iconst X0.here hx rfl (hb hby at_158) (XS.icmpYes X0.here hx rfl (pc0 := 159) (pc' := 187) rfl (hb hby at_159) rfl (feq (by decide : ¬ ((8 : Int32) = (4 : Int32)))).2 (by decide) (by decide) (XS.iloadN X0.here hx rfl (hb hby at_187) rfl kz))) ?_
        show Goes p e below (s₁.setTop (mkF m 188 #[.val (.int p1), .val (.int p2), .val (.int p3), .val (.int (8 : Int32)), .val (.int (0 : Int32)), .val (.int (0 : Int32)), .val (.int (1 : Int32)), .val (.int (0 : Int32)), .val (.int (0 : Int32)), .unset, .unset] [(.int (8 : Int32))])) _
        refine Goes.by (fun _ kz => XS.iconst X0.here hx rfl (hb hby at_188) (XS.icmpYes X0.here hx rfl (pc0 := 189) (pc' := 217) rfl (hb hby at_189) rfl (feq (by decide : ¬ ((8 : Int32) = (5 : Int32)))).2 (by decide) (by decide) (XS.iloadN X0.here hx rfl (hb hby at_217) rfl kz))) ?_
        show Goes p e below (s₁.setTop (mkF m 218 #[.val (.int p1), .val (.int p2), .val (.int p3), .val (.int (8 : Int32)), .val (.int (0 : Int32)), .val (.int (0 : Int32)), .val (.int (1 : Int32)), .val (.int (0 : Int32)), .val (.int (0 : Int32)), .unset, .unset] [(.int (8 : Int32))])) _
        refine Goes.by (fun _ kz => XS.bipush X0.here hx rfl (hb hby at_218) (XS.icmpYes X0.here hx rfl (pc0 := 220) (pc' := 235) rfl (hb hby at_220) rfl (feq (by decide : ¬ ((8 : Int32) = (6 : Int32)))).2 (by decide) (by decide) (XS.iloadN X0.here hx rfl (hb hby at_235) rfl kz))) ?_
        show Goes p e below (s₁.setTop (mkF m 236 #[.val (.int p1), .val (.int p2), .val (.int p3), .val (.int (8 : Int32)), .val (.int (0 : Int32)), .val (.int (0 : Int32)), .val (.int (1 : Int32)), .val (.int (0 : Int32)), .val (.int (0 : Int32)), .unset, .unset] [(.int (8 : Int32))])) _
        refine Goes.by (fun _ kz => XS.bipush X0.here hx rfl (hb hby at_236) (XS.icmpYes X0.here hx rfl (pc0 := 238) (pc' := 266) rfl (hb hby at_238) rfl (feq (by decide : ¬ ((8 : Int32) = (7 : Int32)))).2 (by decide) (by decide) kz)) ?_
        obtain ⟨T25, X25, e25, st25⟩ := getS2 X0 hx hZ hown (host := "") (Or.inl (hw _ (List.mem_of_getElem? (i := 17) rfl))) Via.refl e0 P.2.2.2.2.2.2.1 (g := (mkF m 266 #[.val (.int p1), .val (.int p2), .val (.int p3), .val (.int (8 : Int32)), .val (.int (0 : Int32)), .val (.int (0 : Int32)), .val (.int (1 : Int32)), .val (.int (0 : Int32)), .val (.int (0 : Int32)), .unset, .unset] [])) rfl (hb hby at_266)
        refine Goes.by st25 ?_
        refine Goes.by (fun _ kz => XS.astore X25.here hx rfl (hb hby at_269) rfl rfl (l' := #[.val (.int p1), .val (.int p2), .val (.int p3), .val (.int (8 : Int32)), .val (.int (0 : Int32)), .val (.int (0 : Int32)), .val (.int (1 : Int32)), .val (.int (0 : Int32)), .val (.int (0 : Int32)), .val (.ref (w 3)), .unset]) rfl (XS.iload X25.here hx rfl (hb hby at_271) rfl (XS.istore X25.here hx rfl (hb hby at_273) rfl (l' := #[.val (.int p1), .val (.int p2), .val (.int p3), .val (.int (8 : Int32)), .val (.int (0 : Int32)), .val (.int (0 : Int32)), .val (.int (1 : Int32)), .val (.int (0 : Int32)), .val (.int (0 : Int32)), .val (.ref (w 3)), .val (.int (1 : Int32))]) rfl kz))) ?_
        show Goes p e below (T25.setTop (mkF m 275 #[.val (.int p1), .val (.int p2), .val (.int p3), .val (.int (8 : Int32)), .val (.int (0 : Int32)), .val (.int (0 : Int32)), .val (.int (1 : Int32)), .val (.int (0 : Int32)), .val (.int (0 : Int32)), .val (.ref (w 3)), .val (.int (1 : Int32))] [])) _
        refine Goes.by (fun _ kz => XS.aload X25.here hx rfl (hb hby at_275) rfl rfl (XS.iload X25.here hx rfl (hb hby at_277) rfl (XS.iload X25.here hx rfl (hb hby at_279) rfl kz))) ?_
        obtain ⟨cq27, kq27, q27a, q27b, q27c⟩ := isOf hZ e25 P.2.2.2.2.2.2.2.1
        obtain ⟨_, _, ⟨T27, L27, k27, n27⟩, -, X27, ⟨Lc27, hQ27, l27, y27, z27⟩, st27⟩ := X25.virtualBack hx (y := (⟨"com/example/entail/entail/model/Scope", "reaches", "(IZ)Z"⟩ : MethodName)) (z := (⟨"com/example/entail/entail/model/Scope", "reaches", "(IZ)Z"⟩ : MethodName)) hown (mvT hZ (hw _ (List.mem_of_getElem? (i := 4) rfl))) (mvT hZ (hw _ (List.mem_of_getElem? (i := 5) rfl))) (notFace_of_selects (args := #[]) (mvT hZ (hw _ (List.mem_of_getElem? (i := 7) rfl)))) (mvT hZ (hw _ (List.mem_of_getElem? (i := 7) rfl))) (mvT hZ (hw _ (List.mem_of_getElem? (i := 6) rfl))) (by decide) (backOf (W := 0) (r1_8 l Z a0 hw [] h0 n0 Z0 w P) hZ (hw _ (List.mem_of_getElem? (i := 8) rfl)) (hw _ (List.mem_of_getElem? (i := 2) rfl)) (by decide) (by decide)) q27a q27c (g := (mkF m 281 #[.val (.int p1), .val (.int p2), .val (.int p3), .val (.int (8 : Int32)), .val (.int (0 : Int32)), .val (.int (0 : Int32)), .val (.int (1 : Int32)), .val (.int (0 : Int32)), .val (.int (0 : Int32)), .val (.ref (w 3)), .val (.int (1 : Int32))] [(.int (0 : Int32)), (.int (0 : Int32)), (.ref (w 3))])) rfl (by rw [hml]; rfl) (Steps.refl _) (argsL := [(.int (0 : Int32)), (.int (0 : Int32))]) (rest := []) (lenOf pd0 rfl) rfl (by show 2 * 0 + _ ≤ _; exact Nat.le_of_eq rfl) (hb hby at_281) (fun _ _ => ⟨rfl, e25, (by decide : 0 + 0 ≤ _), (by decide : 0 + 0 ≤ _)⟩)
        dsimp only [Pt.U, Pt.locs, Pt.cells, Pt.slots] at X27 l27 y27 z27 st27 hQ27
        subst l27 y27 z27
        obtain ⟨rfl, Nq27, e27⟩ := hQ27
        have N27 := Fr.app N0 Nq27
        refine Goes.tr st27 ?_
        refine Goes.by (fun _ kz => XS.iload X27.here hx rfl (hb hby at_284) rfl (XS.icmpNo X27.here hx rfl (hb hby at_286) rfl (teq (by decide : (1 : Int32) = (1 : Int32))).2 (XS.iconst X27.here hx rfl (hb hby at_289) kz))) ?_
        show Goes p e below (T27.setTop (mkF m 290 #[.val (.int p1), .val (.int p2), .val (.int p3), .val (.int (8 : Int32)), .val (.int (0 : Int32)), .val (.int (0 : Int32)), .val (.int (1 : Int32)), .val (.int (0 : Int32)), .val (.int (0 : Int32)), .val (.ref (w 3)), .val (.int (1 : Int32))] [(.int (1 : Int32))])) _
        refine Goes.by (fun _ kz => XS.goto X27.here hx rfl (pc0 := 290) (pc' := 294) rfl (hb hby at_290) (by decide) (by decide) kz) ?_
        show Goes p e below (T27.setTop (mkF m 294 #[.val (.int p1), .val (.int p2), .val (.int p3), .val (.int (8 : Int32)), .val (.int (0 : Int32)), .val (.int (0 : Int32)), .val (.int (1 : Int32)), .val (.int (0 : Int32)), .val (.int (0 : Int32)), .val (.ref (w 3)), .val (.int (1 : Int32))] [(.int (1 : Int32))])) _
        obtain ⟨fs, hr, hrun, hended, hW, hsame⟩ := X27.leave (v := some (.int (1 : Int32))) (fun h => by rw [Bd.returns] at h; cases h)
        exact ⟨_, _, retN X27 hx (t := .boolean) Bd.returns (by simp) (hb hby at_294) hr, hrun, hended, _, _, rfl, ⟨rfl, N27⟩, ⟨_, rfl⟩, hW, hsame.mono (by decide) (by decide)⟩
    · rw [hff]
      show Goes p e below (s₁.setTop (mkF m 17 #[.val (.int p1), .val (.int p2), .val (.int p3), .val (.int ((p1 &&& (2147483647 : Int32)) % (9 : Int32))), .val (.int (0 : Int32)), .unset, .unset, .unset, .unset, .unset, .unset] [(.int (1 : Int32))])) _
      refine Goes.by (fun _ kz => XS.ifNo X0.here hx rfl (hb hby at_17) rfl ((if0 _ _).trans (feq (by decide : ¬ ((1 : Int32) = (0 : Int32)))).1) (XS.iconst X0.here hx rfl (hb hby at_20) (XS.goto X0.here hx rfl (pc0 := 21) (pc' := 25) rfl (hb hby at_21) (by decide) (by decide) kz))) ?_
      show Goes p e below (s₁.setTop (mkF m 25 #[.val (.int p1), .val (.int p2), .val (.int p3), .val (.int ((p1 &&& (2147483647 : Int32)) % (9 : Int32))), .val (.int (0 : Int32)), .unset, .unset, .unset, .unset, .unset, .unset] [(.int (1 : Int32))])) _
      refine Goes.by (fun _ kz => XS.istore X0.here hx rfl (hb hby at_25) rfl (l' := #[.val (.int p1), .val (.int p2), .val (.int p3), .val (.int ((p1 &&& (2147483647 : Int32)) % (9 : Int32))), .val (.int (0 : Int32)), .val (.int (1 : Int32)), .unset, .unset, .unset, .unset, .unset]) rfl (XS.iload X0.here hx rfl (hb hby at_27) rfl (XS.ifNo X0.here hx rfl (hb hby at_29) rfl ((if0 _ _).trans (teq (by decide : (0 : Int32) = (0 : Int32))).2) kz))) ?_
      show Goes p e below (s₁.setTop (mkF m 32 #[.val (.int p1), .val (.int p2), .val (.int p3), .val (.int ((p1 &&& (2147483647 : Int32)) % (9 : Int32))), .val (.int (0 : Int32)), .val (.int (1 : Int32)), .unset, .unset, .unset, .unset, .unset] [])) _
      refine Goes.by (fun _ kz => XS.iconst X0.here hx rfl (hb hby at_32) (XS.goto X0.here hx rfl (pc0 := 33) (pc' := 37) rfl (hb hby at_33) (by decide) (by decide) (XS.istore X0.here hx rfl (hb hby at_37) rfl (l' := #[.val (.int p1), .val (.int p2), .val (.int p3), .val (.int ((p1 &&& (2147483647 : Int32)) % (9 : Int32))), .val (.int (0 : Int32)), .val (.int (1 : Int32)), .val (.int (1 : Int32)), .unset, .unset, .unset, .unset]) rfl kz))) ?_
      show Goes p e below (s₁.setTop (mkF m 39 #[.val (.int p1), .val (.int p2), .val (.int p3), .val (.int ((p1 &&& (2147483647 : Int32)) % (9 : Int32))), .val (.int (0 : Int32)), .val (.int (1 : Int32)), .val (.int (1 : Int32)), .unset, .unset, .unset, .unset] [])) _
      refine Goes.by (fun _ kz => XS.iload X0.here hx rfl (hb hby at_39) rfl (XS.iconst X0.here hx rfl (hb hby at_41) (XS.icmpYes X0.here hx rfl (pc0 := 42) (pc' := 49) rfl (hb hby at_42) rfl (feq (by decide : ¬ ((0 : Int32) = (1 : Int32)))).2 (by decide) (by decide) kz))) ?_
      show Goes p e below (s₁.setTop (mkF m 49 #[.val (.int p1), .val (.int p2), .val (.int p3), .val (.int ((p1 &&& (2147483647 : Int32)) % (9 : Int32))), .val (.int (0 : Int32)), .val (.int (1 : Int32)), .val (.int (1 : Int32)), .unset, .unset, .unset, .unset] [])) _
      refine Goes.by (fun _ kz => XS.iconst X0.here hx rfl (hb hby at_49) (XS.istore X0.here hx rfl (hb hby at_50) rfl (l' := #[.val (.int p1), .val (.int p2), .val (.int p3), .val (.int ((p1 &&& (2147483647 : Int32)) % (9 : Int32))), .val (.int (0 : Int32)), .val (.int (1 : Int32)), .val (.int (1 : Int32)), .val (.int (0 : Int32)), .unset, .unset, .unset]) rfl (XS.iload X0.here hx rfl (hb hby at_52) rfl kz))) ?_
      show Goes p e below (s₁.setTop (mkF m 54 #[.val (.int p1), .val (.int p2), .val (.int p3), .val (.int ((p1 &&& (2147483647 : Int32)) % (9 : Int32))), .val (.int (0 : Int32)), .val (.int (1 : Int32)), .val (.int (1 : Int32)), .val (.int (0 : Int32)), .unset, .unset, .unset] [(.int (0 : Int32))])) _
      refine Goes.by (fun _ kz => XS.iconst X0.here hx rfl (hb hby at_54) (XS.icmpYes X0.here hx rfl (pc0 := 55) (pc' := 62) rfl (hb hby at_55) rfl (tlt (by decide : (0 : Int32) < (1 : Int32))).1 (by decide) (by decide) (XS.iconst X0.here hx rfl (hb hby at_62) kz))) ?_
      show Goes p e below (s₁.setTop (mkF m 63 #[.val (.int p1), .val (.int p2), .val (.int p3), .val (.int ((p1 &&& (2147483647 : Int32)) % (9 : Int32))), .val (.int (0 : Int32)), .val (.int (1 : Int32)), .val (.int (1 : Int32)), .val (.int (0 : Int32)), .unset, .unset, .unset] [(.int (0 : Int32))])) _
      refine Goes.by (fun _ kz => XS.istore X0.here hx rfl (hb hby at_63) rfl (l' := #[.val (.int p1), .val (.int p2), .val (.int p3), .val (.int ((p1 &&& (2147483647 : Int32)) % (9 : Int32))), .val (.int (0 : Int32)), .val (.int (1 : Int32)), .val (.int (1 : Int32)), .val (.int (0 : Int32)), .val (.int (0 : Int32)), .unset, .unset]) rfl kz) ?_
      show Goes p e below (s₁.setTop (mkF m 65 #[.val (.int p1), .val (.int p2), .val (.int p3), .val (.int ((p1 &&& (2147483647 : Int32)) % (9 : Int32))), .val (.int (0 : Int32)), .val (.int (1 : Int32)), .val (.int (1 : Int32)), .val (.int (0 : Int32)), .val (.int (0 : Int32)), .unset, .unset] [])) _
      have hsi := own_split p1
      obtain ⟨i, hi⟩ : ∃ z, z = ((p1 &&& (2147483647 : Int32)) % (9 : Int32)) := ⟨_, rfl⟩
      rw [← hi] at hsi ⊢
      rcases hsi with rfl | rfl | rfl | rfl | rfl | rfl | rfl | rfl | rfl
      · show Goes p e below (s₁.setTop (mkF m 65 #[.val (.int p1), .val (.int p2), .val (.int p3), .val (.int (0 : Int32)), .val (.int (0 : Int32)), .val (.int (1 : Int32)), .val (.int (1 : Int32)), .val (.int (0 : Int32)), .val (.int (0 : Int32)), .unset, .unset] [])) _
        refine Goes.by (fun _ kz => XS.iloadN X0.here hx rfl (hb hby at_65) rfl (XS.ifNo X0.here hx rfl (hb hby at_66) rfl ((if0 _ _).trans (teq (by decide : (0 : Int32) = (0 : Int32))).2) kz)) ?_
        obtain ⟨T28, X28, e28, st28⟩ := getS2 X0 hx hZ hown (host := "") (Or.inl (hw _ (List.mem_of_getElem? (i := 1) rfl))) Via.refl e0 P.1 (g := (mkF m 69 #[.val (.int p1), .val (.int p2), .val (.int p3), .val (.int (0 : Int32)), .val (.int (0 : Int32)), .val (.int (1 : Int32)), .val (.int (1 : Int32)), .val (.int (0 : Int32)), .val (.int (0 : Int32)), .unset, .unset] [])) rfl (hb hby at_69)
        refine Goes.by st28 ?_
        refine Goes.by (fun _ kz => XS.astore X28.here hx rfl (hb hby at_72) rfl rfl (l' := #[.val (.int p1), .val (.int p2), .val (.int p3), .val (.int (0 : Int32)), .val (.int (0 : Int32)), .val (.int (1 : Int32)), .val (.int (1 : Int32)), .val (.int (0 : Int32)), .val (.int (0 : Int32)), .val (.ref (w 0)), .unset]) rfl (XS.iconst X28.here hx rfl (hb hby at_74) (XS.istore X28.here hx rfl (hb hby at_75) rfl (l' := #[.val (.int p1), .val (.int p2), .val (.int p3), .val (.int (0 : Int32)), .val (.int (0 : Int32)), .val (.int (1 : Int32)), .val (.int (1 : Int32)), .val (.int (0 : Int32)), .val (.int (0 : Int32)), .val (.ref (w 0)), .val (.int (1 : Int32))]) rfl kz))) ?_
        show Goes p e below (T28.setTop (mkF m 77 #[.val (.int p1), .val (.int p2), .val (.int p3), .val (.int (0 : Int32)), .val (.int (0 : Int32)), .val (.int (1 : Int32)), .val (.int (1 : Int32)), .val (.int (0 : Int32)), .val (.int (0 : Int32)), .val (.ref (w 0)), .val (.int (1 : Int32))] [])) _
        refine Goes.by (fun _ kz => XS.goto X28.here hx rfl (pc0 := 77) (pc' := 275) rfl (hb hby at_77) (by decide) (by decide) (XS.aload X28.here hx rfl (hb hby at_275) rfl rfl (XS.iload X28.here hx rfl (hb hby at_277) rfl kz))) ?_
        show Goes p e below (T28.setTop (mkF m 279 #[.val (.int p1), .val (.int p2), .val (.int p3), .val (.int (0 : Int32)), .val (.int (0 : Int32)), .val (.int (1 : Int32)), .val (.int (1 : Int32)), .val (.int (0 : Int32)), .val (.int (0 : Int32)), .val (.ref (w 0)), .val (.int (1 : Int32))] [(.int (0 : Int32)), (.ref (w 0))])) _
        refine Goes.by (fun _ kz => XS.iload X28.here hx rfl (hb hby at_279) rfl kz) ?_
        obtain ⟨cq30, kq30, q30a, q30b, q30c⟩ := isOf hZ e28 P.2.1
        obtain ⟨_, _, ⟨T30, L30, k30, n30⟩, -, X30, ⟨Lc30, hQ30, l30, y30, z30⟩, st30⟩ := X28.virtualBack hx (y := (⟨"com/example/entail/entail/model/Scope", "reaches", "(IZ)Z"⟩ : MethodName)) (z := (⟨"com/example/entail/entail/model/Scope", "reaches", "(IZ)Z"⟩ : MethodName)) hown (mvT hZ (hw _ (List.mem_of_getElem? (i := 4) rfl))) (mvT hZ (hw _ (List.mem_of_getElem? (i := 5) rfl))) (notFace_of_selects (args := #[]) (mvT hZ (hw _ (List.mem_of_getElem? (i := 7) rfl)))) (mvT hZ (hw _ (List.mem_of_getElem? (i := 7) rfl))) (mvT hZ (hw _ (List.mem_of_getElem? (i := 6) rfl))) (by decide) (backOf (W := 0) (r1_9 l Z a0 hw [] h0 n0 Z0 w P) hZ (hw _ (List.mem_of_getElem? (i := 8) rfl)) (hw _ (List.mem_of_getElem? (i := 2) rfl)) (by decide) (by decide)) q30a q30c (g := (mkF m 281 #[.val (.int p1), .val (.int p2), .val (.int p3), .val (.int (0 : Int32)), .val (.int (0 : Int32)), .val (.int (1 : Int32)), .val (.int (1 : Int32)), .val (.int (0 : Int32)), .val (.int (0 : Int32)), .val (.ref (w 0)), .val (.int (1 : Int32))] [(.int (1 : Int32)), (.int (0 : Int32)), (.ref (w 0))])) rfl (by rw [hml]; rfl) (Steps.refl _) (argsL := [(.int (0 : Int32)), (.int (1 : Int32))]) (rest := []) (lenOf pd0 rfl) rfl (by show 2 * 0 + _ ≤ _; exact Nat.le_of_eq rfl) (hb hby at_281) (fun _ _ => ⟨rfl, e28, (by decide : 0 + 0 ≤ _), (by decide : 0 + 0 ≤ _)⟩)
        dsimp only [Pt.U, Pt.locs, Pt.cells, Pt.slots] at X30 l30 y30 z30 st30 hQ30
        subst l30 y30 z30
        obtain ⟨rfl, Nq30, e30⟩ := hQ30
        have N30 := Fr.app N0 Nq30
        refine Goes.tr st30 ?_
        refine Goes.by (fun _ kz => XS.iload X30.here hx rfl (hb hby at_284) rfl (XS.icmpNo X30.here hx rfl (hb hby at_286) rfl (teq (by decide : (1 : Int32) = (1 : Int32))).2 (XS.iconst X30.here hx rfl (hb hby at_289) kz))) ?_
        show Goes p e below (T30.setTop (mkF m 290 #[.val (.int p1), .val (.int p2), .val (.int p3), .val (.int (0 : Int32)), .val (.int (0 : Int32)), .val (.int (1 : Int32)), .val (.int (1 : Int32)), .val (.int (0 : Int32)), .val (.int (0 : Int32)), .val (.ref (w 0)), .val (.int (1 : Int32))] [(.int (1 : Int32))])) _
        refine Goes.by (fun _ kz => XS.goto X30.here hx rfl (pc0 := 290) (pc' := 294) rfl (hb hby at_290) (by decide) (by decide) kz) ?_
        show Goes p e below (T30.setTop (mkF m 294 #[.val (.int p1), .val (.int p2), .val (.int p3), .val (.int (0 : Int32)), .val (.int (0 : Int32)), .val (.int (1 : Int32)), .val (.int (1 : Int32)), .val (.int (0 : Int32)), .val (.int (0 : Int32)), .val (.ref (w 0)), .val (.int (1 : Int32))] [(.int (1 : Int32))])) _
        obtain ⟨fs, hr, hrun, hended, hW, hsame⟩ := X30.leave (v := some (.int (1 : Int32))) (fun h => by rw [Bd.returns] at h; cases h)
        exact ⟨_, _, retN X30 hx (t := .boolean) Bd.returns (by simp) (hb hby at_294) hr, hrun, hended, _, _, rfl, ⟨rfl, N30⟩, ⟨_, rfl⟩, hW, hsame.mono (by decide) (by decide)⟩
      · show Goes p e below (s₁.setTop (mkF m 65 #[.val (.int p1), .val (.int p2), .val (.int p3), .val (.int (1 : Int32)), .val (.int (0 : Int32)), .val (.int (1 : Int32)), .val (.int (1 : Int32)), .val (.int (0 : Int32)), .val (.int (0 : Int32)), .unset, .unset] [])) _
        refine Goes.by (fun _ kz => XS.iloadN X0.here hx rfl (hb hby at_65) rfl (XS.ifYes X0.here hx rfl (pc0 := 66) (pc' := 80) rfl (hb hby at_66) rfl ((if0 _ _).trans (feq (by decide : ¬ ((1 : Int32) = (0 : Int32)))).2) (by decide) (by decide) (XS.iloadN X0.here hx rfl (hb hby at_80) rfl kz))) ?_
        show Goes p e below (s₁.setTop (mkF m 81 #[.val (.int p1), .val (.int p2), .val (.int p3), .val (.int (1 : Int32)), .val (.int (0 : Int32)), .val (.int (1 : Int32)), .val (.int (1 : Int32)), .val (.int (0 : Int32)), .val (.int (0 : Int32)), .unset, .unset] [(.int (1 : Int32))])) _
        refine Goes.by (fun _ kz => XS.iconst X0.here hx rfl (hb hby at_81) (XS.icmpNo X0.here hx rfl (hb hby at_82) rfl (teq (by decide : (1 : Int32) = (1 : Int32))).2 kz)) ?_
        obtain ⟨T31, X31, e31, st31⟩ := getS2 X0 hx hZ hown (host := "") (Or.inl (hw _ (List.mem_of_getElem? (i := 11) rfl))) Via.refl e0 P.2.2.1 (g := (mkF m 85 #[.val (.int p1), .val (.int p2), .val (.int p3), .val (.int (1 : Int32)), .val (.int (0 : Int32)), .val (.int (1 : Int32)), .val (.int (1 : Int32)), .val (.int (0 : Int32)), .val (.int (0 : Int32)), .unset, .unset] [])) rfl (hb hby at_85)
        refine Goes.by st31 ?_
        refine Goes.by (fun _ kz => XS.astore X31.here hx rfl (hb hby at_88) rfl rfl (l' := #[.val (.int p1), .val (.int p2), .val (.int p3), .val (.int (1 : Int32)), .val (.int (0 : Int32)), .val (.int (1 : Int32)), .val (.int (1 : Int32)), .val (.int (0 : Int32)), .val (.int (0 : Int32)), .val (.ref (w 1)), .unset]) rfl (XS.iload X31.here hx rfl (hb hby at_90) rfl (XS.ifYes X31.here hx rfl (pc0 := 92) (pc' := 100) rfl (hb hby at_92) rfl ((if0 _ _).trans (feq (by decide : ¬ ((1 : Int32) = (0 : Int32)))).2) (by decide) (by decide) kz))) ?_
        show Goes p e below (T31.setTop (mkF m 100 #[.val (.int p1), .val (.int p2), .val (.int p3), .val (.int (1 : Int32)), .val (.int (0 : Int32)), .val (.int (1 : Int32)), .val (.int (1 : Int32)), .val (.int (0 : Int32)), .val (.int (0 : Int32)), .val (.ref (w 1)), .unset] [])) _
        refine Goes.by (fun _ kz => XS.iconst X31.here hx rfl (hb hby at_100) (XS.goto X31.here hx rfl (pc0 := 101) (pc' := 105) rfl (hb hby at_101) (by decide) (by decide) (XS.istore X31.here hx rfl (hb hby at_105) rfl (l' := #[.val (.int p1), .val (.int p2), .val (.int p3), .val (.int (1 : Int32)), .val (.int (0 : Int32)), .val (.int (1 : Int32)), .val (.int (1 : Int32)), .val (.int (0 : Int32)), .val (.int (0 : Int32)), .val (.ref (w 1)), .val (.int (1 : Int32))]) rfl kz))) ?_
        show Goes p e below (T31.setTop (mkF m 107 #[.val (.int p1), .val (.int p2), .val (.int p3), .val (.int (1 : Int32)), .val (.int (0 : Int32)), .val (.int (1 : Int32)), .val (.int (1 : Int32)), .val (.int (0 : Int32)), .val (.int (0 : Int32)), .val (.ref (w 1)), .val (.int (1 : Int32))] [])) _
        refine Goes.by (fun _ kz => XS.goto X31.here hx rfl (pc0 := 107) (pc' := 275) rfl (hb hby at_107) (by decide) (by decide) (XS.aload X31.here hx rfl (hb hby at_275) rfl rfl (XS.iload X31.here hx rfl (hb hby at_277) rfl kz))) ?_
        show Goes p e below (T31.setTop (mkF m 279 #[.val (.int p1), .val (.int p2), .val (.int p3), .val (.int (1 : Int32)), .val (.int (0 : Int32)), .val (.int (1 : Int32)), .val (.int (1 : Int32)), .val (.int (0 : Int32)), .val (.int (0 : Int32)), .val (.ref (w 1)), .val (.int (1 : Int32))] [(.int (0 : Int32)), (.ref (w 1))])) _
        refine Goes.by (fun _ kz => XS.iload X31.here hx rfl (hb hby at_279) rfl kz) ?_
        obtain ⟨cq33, kq33, q33a, q33b, q33c⟩ := isOf hZ e31 P.2.2.2.1
        obtain ⟨_, _, ⟨T33, L33, k33, n33⟩, -, X33, ⟨Lc33, hQ33, l33, y33, z33⟩, st33⟩ := X31.virtualBack hx (y := (⟨"com/example/entail/entail/model/Scope", "reaches", "(IZ)Z"⟩ : MethodName)) (z := (⟨"com/example/entail/entail/model/Scope", "reaches", "(IZ)Z"⟩ : MethodName)) hown (mvT hZ (hw _ (List.mem_of_getElem? (i := 4) rfl))) (mvT hZ (hw _ (List.mem_of_getElem? (i := 5) rfl))) (notFace_of_selects (args := #[]) (mvT hZ (hw _ (List.mem_of_getElem? (i := 7) rfl)))) (mvT hZ (hw _ (List.mem_of_getElem? (i := 7) rfl))) (mvT hZ (hw _ (List.mem_of_getElem? (i := 6) rfl))) (by decide) (backOf (W := 0) (r1_10 l Z a0 hw [] h0 n0 Z0 w P) hZ (hw _ (List.mem_of_getElem? (i := 8) rfl)) (hw _ (List.mem_of_getElem? (i := 2) rfl)) (by decide) (by decide)) q33a q33c (g := (mkF m 281 #[.val (.int p1), .val (.int p2), .val (.int p3), .val (.int (1 : Int32)), .val (.int (0 : Int32)), .val (.int (1 : Int32)), .val (.int (1 : Int32)), .val (.int (0 : Int32)), .val (.int (0 : Int32)), .val (.ref (w 1)), .val (.int (1 : Int32))] [(.int (1 : Int32)), (.int (0 : Int32)), (.ref (w 1))])) rfl (by rw [hml]; rfl) (Steps.refl _) (argsL := [(.int (0 : Int32)), (.int (1 : Int32))]) (rest := []) (lenOf pd0 rfl) rfl (by show 2 * 0 + _ ≤ _; exact Nat.le_of_eq rfl) (hb hby at_281) (fun _ _ => ⟨rfl, e31, (by decide : 0 + 0 ≤ _), (by decide : 0 + 0 ≤ _)⟩)
        dsimp only [Pt.U, Pt.locs, Pt.cells, Pt.slots] at X33 l33 y33 z33 st33 hQ33
        subst l33 y33 z33
        obtain ⟨rfl, Nq33, e33⟩ := hQ33
        have N33 := Fr.app N0 Nq33
        refine Goes.tr st33 ?_
        refine Goes.by (fun _ kz => XS.iload X33.here hx rfl (hb hby at_284) rfl (XS.icmpNo X33.here hx rfl (hb hby at_286) rfl (teq (by decide : (1 : Int32) = (1 : Int32))).2 (XS.iconst X33.here hx rfl (hb hby at_289) kz))) ?_
        show Goes p e below (T33.setTop (mkF m 290 #[.val (.int p1), .val (.int p2), .val (.int p3), .val (.int (1 : Int32)), .val (.int (0 : Int32)), .val (.int (1 : Int32)), .val (.int (1 : Int32)), .val (.int (0 : Int32)), .val (.int (0 : Int32)), .val (.ref (w 1)), .val (.int (1 : Int32))] [(.int (1 : Int32))])) _
        refine Goes.by (fun _ kz => XS.goto X33.here hx rfl (pc0 := 290) (pc' := 294) rfl (hb hby at_290) (by decide) (by decide) kz) ?_
        show Goes p e below (T33.setTop (mkF m 294 #[.val (.int p1), .val (.int p2), .val (.int p3), .val (.int (1 : Int32)), .val (.int (0 : Int32)), .val (.int (1 : Int32)), .val (.int (1 : Int32)), .val (.int (0 : Int32)), .val (.int (0 : Int32)), .val (.ref (w 1)), .val (.int (1 : Int32))] [(.int (1 : Int32))])) _
        obtain ⟨fs, hr, hrun, hended, hW, hsame⟩ := X33.leave (v := some (.int (1 : Int32))) (fun h => by rw [Bd.returns] at h; cases h)
        exact ⟨_, _, retN X33 hx (t := .boolean) Bd.returns (by simp) (hb hby at_294) hr, hrun, hended, _, _, rfl, ⟨rfl, N33⟩, ⟨_, rfl⟩, hW, hsame.mono (by decide) (by decide)⟩
      · show Goes p e below (s₁.setTop (mkF m 65 #[.val (.int p1), .val (.int p2), .val (.int p3), .val (.int (2 : Int32)), .val (.int (0 : Int32)), .val (.int (1 : Int32)), .val (.int (1 : Int32)), .val (.int (0 : Int32)), .val (.int (0 : Int32)), .unset, .unset] [])) _
        refine Goes.by (fun _ kz => XS.iloadN X0.here hx rfl (hb hby at_65) rfl (XS.ifYes X0.here hx rfl (pc0 := 66) (pc' := 80) rfl (hb hby at_66) rfl ((if0 _ _).trans (feq (by decide : ¬ ((2 : Int32) = (0 : Int32)))).2) (by decide) (by decide) (XS.iloadN X0.here hx rfl (hb hby at_80) rfl kz))) ?_
        show Goes p e below (s₁.setTop (mkF m 81 #[.val (.int p1), .val (.int p2), .val (.int p3), .val (.int (2 : Int32)), .val (.int (0 : Int32)), .val (.int (1 : Int32)), .val (.int (1 : Int32)), .val (.int (0 : Int32)), .val (.int (0 : Int32)), .unset, .unset] [(.int (2 : Int32))])) _
        refine Goes.by (fun _ kz => XS.iconst X0.here hx rfl (hb hby at_81) (XS.icmpYes X0.here hx rfl (pc0 := 82) (pc' := 110) rfl (hb hby at_82) rfl (feq (by decide : ¬ ((2 : Int32) = (1 : Int32)))).2 (by decide) (by decide) (XS.iloadN X0.here hx rfl (hb hby at_110) rfl kz))) ?_
        show Goes p e below (s₁.setTop (mkF m 111 #[.val (.int p1), .val (.int p2), .val (.int p3), .val (.int (2 : Int32)), .val (.int (0 : Int32)), .val (.int (1 : Int32)), .val (.int (1 : Int32)), .val (.int (0 : Int32)), .val (.int (0 : Int32)), .unset, .unset] [(.int (2 : Int32))])) _
        refine Goes.by (fun _ kz => XS.iconst X0.here hx rfl (hb hby at_111) (XS.icmpNo X0.here hx rfl (hb hby at_112) rfl (teq (by decide : (2 : Int32) = (2 : Int32))).2 kz)) ?_
        obtain ⟨T34, X34, e34, st34⟩ := getS2 X0 hx hZ hown (host := "") (Or.inl (hw _ (List.mem_of_getElem? (i := 15) rfl))) Via.refl e0 P.2.2.2.2.1 (g := (mkF m 115 #[.val (.int p1), .val (.int p2), .val (.int p3), .val (.int (2 : Int32)), .val (.int (0 : Int32)), .val (.int (1 : Int32)), .val (.int (1 : Int32)), .val (.int (0 : Int32)), .val (.int (0 : Int32)), .unset, .unset] [])) rfl (hb hby at_115)
        refine Goes.by st34 ?_
        refine Goes.by (fun _ kz => XS.astore X34.here hx rfl (hb hby at_118) rfl rfl (l' := #[.val (.int p1), .val (.int p2), .val (.int p3), .val (.int (2 : Int32)), .val (.int (0 : Int32)), .val (.int (1 : Int32)), .val (.int (1 : Int32)), .val (.int (0 : Int32)), .val (.int (0 : Int32)), .val (.ref (w 2)), .unset]) rfl (XS.iload X34.here hx rfl (hb hby at_120) rfl (XS.ifYes X34.here hx rfl (pc0 := 122) (pc' := 130) rfl (hb hby at_122) rfl ((if0 _ _).trans (feq (by decide : ¬ ((1 : Int32) = (0 : Int32)))).2) (by decide) (by decide) kz))) ?_
        show Goes p e below (T34.setTop (mkF m 130 #[.val (.int p1), .val (.int p2), .val (.int p3), .val (.int (2 : Int32)), .val (.int (0 : Int32)), .val (.int (1 : Int32)), .val (.int (1 : Int32)), .val (.int (0 : Int32)), .val (.int (0 : Int32)), .val (.ref (w 2)), .unset] [])) _
        refine Goes.by (fun _ kz => XS.iconst X34.here hx rfl (hb hby at_130) (XS.goto X34.here hx rfl (pc0 := 131) (pc' := 135) rfl (hb hby at_131) (by decide) (by decide) (XS.istore X34.here hx rfl (hb hby at_135) rfl (l' := #[.val (.int p1), .val (.int p2), .val (.int p3), .val (.int (2 : Int32)), .val (.int (0 : Int32)), .val (.int (1 : Int32)), .val (.int (1 : Int32)), .val (.int (0 : Int32)), .val (.int (0 : Int32)), .val (.ref (w 2)), .val (.int (1 : Int32))]) rfl kz))) ?_
        show Goes p e below (T34.setTop (mkF m 137 #[.val (.int p1), .val (.int p2), .val (.int p3), .val (.int (2 : Int32)), .val (.int (0 : Int32)), .val (.int (1 : Int32)), .val (.int (1 : Int32)), .val (.int (0 : Int32)), .val (.int (0 : Int32)), .val (.ref (w 2)), .val (.int (1 : Int32))] [])) _
        refine Goes.by (fun _ kz => XS.goto X34.here hx rfl (pc0 := 137) (pc' := 275) rfl (hb hby at_137) (by decide) (by decide) (XS.aload X34.here hx rfl (hb hby at_275) rfl rfl (XS.iload X34.here hx rfl (hb hby at_277) rfl kz))) ?_
        show Goes p e below (T34.setTop (mkF m 279 #[.val (.int p1), .val (.int p2), .val (.int p3), .val (.int (2 : Int32)), .val (.int (0 : Int32)), .val (.int (1 : Int32)), .val (.int (1 : Int32)), .val (.int (0 : Int32)), .val (.int (0 : Int32)), .val (.ref (w 2)), .val (.int (1 : Int32))] [(.int (0 : Int32)), (.ref (w 2))])) _
        refine Goes.by (fun _ kz => XS.iload X34.here hx rfl (hb hby at_279) rfl kz) ?_
        obtain ⟨cq36, kq36, q36a, q36b, q36c⟩ := isOf hZ e34 P.2.2.2.2.2.1
        obtain ⟨_, _, ⟨T36, L36, k36, n36⟩, -, X36, ⟨Lc36, hQ36, l36, y36, z36⟩, st36⟩ := X34.virtualBack hx (y := (⟨"com/example/entail/entail/model/Scope", "reaches", "(IZ)Z"⟩ : MethodName)) (z := (⟨"com/example/entail/entail/model/Scope", "reaches", "(IZ)Z"⟩ : MethodName)) hown (mvT hZ (hw _ (List.mem_of_getElem? (i := 4) rfl))) (mvT hZ (hw _ (List.mem_of_getElem? (i := 5) rfl))) (notFace_of_selects (args := #[]) (mvT hZ (hw _ (List.mem_of_getElem? (i := 7) rfl)))) (mvT hZ (hw _ (List.mem_of_getElem? (i := 7) rfl))) (mvT hZ (hw _ (List.mem_of_getElem? (i := 6) rfl))) (by decide) (backOf (W := 0) (r1_11 l Z a0 hw [] h0 n0 Z0 w P) hZ (hw _ (List.mem_of_getElem? (i := 8) rfl)) (hw _ (List.mem_of_getElem? (i := 2) rfl)) (by decide) (by decide)) q36a q36c (g := (mkF m 281 #[.val (.int p1), .val (.int p2), .val (.int p3), .val (.int (2 : Int32)), .val (.int (0 : Int32)), .val (.int (1 : Int32)), .val (.int (1 : Int32)), .val (.int (0 : Int32)), .val (.int (0 : Int32)), .val (.ref (w 2)), .val (.int (1 : Int32))] [(.int (1 : Int32)), (.int (0 : Int32)), (.ref (w 2))])) rfl (by rw [hml]; rfl) (Steps.refl _) (argsL := [(.int (0 : Int32)), (.int (1 : Int32))]) (rest := []) (lenOf pd0 rfl) rfl (by show 2 * 0 + _ ≤ _; exact Nat.le_of_eq rfl) (hb hby at_281) (fun _ _ => ⟨rfl, e34, (by decide : 0 + 0 ≤ _), (by decide : 0 + 0 ≤ _)⟩)
        dsimp only [Pt.U, Pt.locs, Pt.cells, Pt.slots] at X36 l36 y36 z36 st36 hQ36
        subst l36 y36 z36
        obtain ⟨rfl, Nq36, e36⟩ := hQ36
        have N36 := Fr.app N0 Nq36
        refine Goes.tr st36 ?_
        refine Goes.by (fun _ kz => XS.iload X36.here hx rfl (hb hby at_284) rfl (XS.icmpNo X36.here hx rfl (hb hby at_286) rfl (teq (by decide : (1 : Int32) = (1 : Int32))).2 (XS.iconst X36.here hx rfl (hb hby at_289) kz))) ?_
        show Goes p e below (T36.setTop (mkF m 290 #[.val (.int p1), .val (.int p2), .val (.int p3), .val (.int (2 : Int32)), .val (.int (0 : Int32)), .val (.int (1 : Int32)), .val (.int (1 : Int32)), .val (.int (0 : Int32)), .val (.int (0 : Int32)), .val (.ref (w 2)), .val (.int (1 : Int32))] [(.int (1 : Int32))])) _
        refine Goes.by (fun _ kz => XS.goto X36.here hx rfl (pc0 := 290) (pc' := 294) rfl (hb hby at_290) (by decide) (by decide) kz) ?_
        show Goes p e below (T36.setTop (mkF m 294 #[.val (.int p1), .val (.int p2), .val (.int p3), .val (.int (2 : Int32)), .val (.int (0 : Int32)), .val (.int (1 : Int32)), .val (.int (1 : Int32)), .val (.int (0 : Int32)), .val (.int (0 : Int32)), .val (.ref (w 2)), .val (.int (1 : Int32))] [(.int (1 : Int32))])) _
        obtain ⟨fs, hr, hrun, hended, hW, hsame⟩ := X36.leave (v := some (.int (1 : Int32))) (fun h => by rw [Bd.returns] at h; cases h)
        exact ⟨_, _, retN X36 hx (t := .boolean) Bd.returns (by simp) (hb hby at_294) hr, hrun, hended, _, _, rfl, ⟨rfl, N36⟩, ⟨_, rfl⟩, hW, hsame.mono (by decide) (by decide)⟩
      · show Goes p e below (s₁.setTop (mkF m 65 #[.val (.int p1), .val (.int p2), .val (.int p3), .val (.int (3 : Int32)), .val (.int (0 : Int32)), .val (.int (1 : Int32)), .val (.int (1 : Int32)), .val (.int (0 : Int32)), .val (.int (0 : Int32)), .unset, .unset] [])) _
        refine Goes.by (fun _ kz => XS.iloadN X0.here hx rfl (hb hby at_65) rfl (XS.ifYes X0.here hx rfl (pc0 := 66) (pc' := 80) rfl (hb hby at_66) rfl ((if0 _ _).trans (feq (by decide : ¬ ((3 : Int32) = (0 : Int32)))).2) (by decide) (by decide) (XS.iloadN X0.here hx rfl (hb hby at_80) rfl kz))) ?_
        show Goes p e below (s₁.setTop (mkF m 81 #[.val (.int p1), .val (.int p2), .val (.int p3), .val (.int (3 : Int32)), .val (.int (0 : Int32)), .val (.int (1 : Int32)), .val (.int (1 : Int32)), .val (.int (0 : Int32)), .val (.int (0 : Int32)), .unset, .unset] [(.int (3 : Int32))])) _
        refine Goes.by (fun _ kz => XS.iconst X0.here hx rfl (hb hby at_81) (XS.icmpYes X0.here hx rfl (pc0 := 82) (pc' := 110) rfl (hb hby at_82) rfl (feq (by decide : ¬ ((3 : Int32) = (1 : Int32)))).2 (by decide) (by decide) (XS.iloadN X0.here hx rfl (hb hby at_110) rfl kz))) ?_
        show Goes p e below (s₁.setTop (mkF m 111 #[.val (.int p1), .val (.int p2), .val (.int p3), .val (.int (3 : Int32)), .val (.int (0 : Int32)), .val (.int (1 : Int32)), .val (.int (1 : Int32)), .val (.int (0 : Int32)), .val (.int (0 : Int32)), .unset, .unset] [(.int (3 : Int32))])) _
        refine Goes.by (fun _ kz => XS.iconst X0.here hx rfl (hb hby at_111) (XS.icmpYes X0.here hx rfl (pc0 := 112) (pc' := 140) rfl (hb hby at_112) rfl (feq (by decide : ¬ ((3 : Int32) = (2 : Int32)))).2 (by decide) (by decide) (XS.iloadN X0.here hx rfl (hb hby at_140) rfl kz))) ?_
        show Goes p e below (s₁.setTop (mkF m 141 #[.val (.int p1), .val (.int p2), .val (.int p3), .val (.int (3 : Int32)), .val (.int (0 : Int32)), .val (.int (1 : Int32)), .val (.int (1 : Int32)), .val (.int (0 : Int32)), .val (.int (0 : Int32)), .unset, .unset] [(.int (3 : Int32))])) _
        refine Goes.by (fun _ kz => XS.iconst X0.here hx rfl (hb hby at_141) (XS.icmpNo X0.here hx rfl (hb hby at_142) rfl (teq (by decide : (3 : Int32) = (3 : Int32))).2 kz)) ?_
        obtain ⟨T37, X37, e37, st37⟩ := getS2 X0 hx hZ hown (host := "") (Or.inl (hw _ (List.mem_of_getElem? (i := 25) rfl))) Via.refl e0 P.2.2.2.2.2.2.2.2.2.2.2.2.1 (g := (mkF m 145 #[.val (.int p1), .val (.int p2), .val (.int p3), .val (.int (3 : Int32)), .val (.int (0 : Int32)), .val (.int (1 : Int32)), .val (.int (1 : Int32)), .val (.int (0 : Int32)), .val (.int (0 : Int32)), .unset, .unset] [])) rfl (hb hby at_145)
        refine Goes.by st37 ?_
        refine Goes.by (fun _ kz => XS.astore X37.here hx rfl (hb hby at_148) rfl rfl (l' := #[.val (.int p1), .val (.int p2), .val (.int p3), .val (.int (3 : Int32)), .val (.int (0 : Int32)), .val (.int (1 : Int32)), .val (.int (1 : Int32)), .val (.int (0 : Int32)), .val (.int (0 : Int32)), .val (.ref (w 6)), .unset]) rfl (XS.iload X37.here hx rfl (hb hby at_150) rfl (XS.istore X37.here hx rfl (hb hby at_152) rfl (l' := #[.val (.int p1), .val (.int p2), .val (.int p3), .val (.int (3 : Int32)), .val (.int (0 : Int32)), .val (.int (1 : Int32)), .val (.int (1 : Int32)), .val (.int (0 : Int32)), .val (.int (0 : Int32)), .val (.ref (w 6)), .val (.int (0 : Int32))]) rfl kz))) ?_
        show Goes p e below (T37.setTop (mkF m 154 #[.val (.int p1), .val (.int p2), .val (.int p3), .val (.int (3 : Int32)), .val (.int (0 : Int32)), .val (.int (1 : Int32)), .val (.int (1 : Int32)), .val (.int (0 : Int32)), .val (.int (0 : Int32)), .val (.ref (w 6)), .val (.int (0 : Int32))] [])) _
        refine Goes.by (fun _ kz => XS.goto X37.here hx rfl (pc0 := 154) (pc' := 275) rfl (hb hby at_154) (by decide) (by decide) (XS.aload X37.here hx rfl (hb hby at_275) rfl rfl (XS.iload X37.here hx rfl (hb hby at_277) rfl kz))) ?_
        show Goes p e below (T37.setTop (mkF m 279 #[.val (.int p1), .val (.int p2), .val (.int p3), .val (.int (3 : Int32)), .val (.int (0 : Int32)), .val (.int (1 : Int32)), .val (.int (1 : Int32)), .val (.int (0 : Int32)), .val (.int (0 : Int32)), .val (.ref (w 6)), .val (.int (0 : Int32))] [(.int (0 : Int32)), (.ref (w 6))])) _
        refine Goes.by (fun _ kz => XS.iload X37.here hx rfl (hb hby at_279) rfl kz) ?_
        obtain ⟨cq39, kq39, q39a, q39b, q39c⟩ := isOf hZ e37 P.2.2.2.2.2.2.2.2.2.2.2.2.2.1
        obtain ⟨_, _, ⟨T39, L39, k39, n39⟩, -, X39, ⟨Lc39, hQ39, l39, y39, z39⟩, st39⟩ := X37.virtualBack hx (y := (⟨"com/example/entail/entail/model/Scope", "reaches", "(IZ)Z"⟩ : MethodName)) (z := (⟨"com/example/entail/entail/model/Scope", "reaches", "(IZ)Z"⟩ : MethodName)) hown (mvT hZ (hw _ (List.mem_of_getElem? (i := 4) rfl))) (mvT hZ (hw _ (List.mem_of_getElem? (i := 5) rfl))) (notFace_of_selects (args := #[]) (mvT hZ (hw _ (List.mem_of_getElem? (i := 7) rfl)))) (mvT hZ (hw _ (List.mem_of_getElem? (i := 7) rfl))) (mvT hZ (hw _ (List.mem_of_getElem? (i := 6) rfl))) (by decide) (backOf (W := 0) (r1_12 l Z a0 hw [] h0 n0 Z0 w P) hZ (hw _ (List.mem_of_getElem? (i := 8) rfl)) (hw _ (List.mem_of_getElem? (i := 2) rfl)) (by decide) (by decide)) q39a q39c (g := (mkF m 281 #[.val (.int p1), .val (.int p2), .val (.int p3), .val (.int (3 : Int32)), .val (.int (0 : Int32)), .val (.int (1 : Int32)), .val (.int (1 : Int32)), .val (.int (0 : Int32)), .val (.int (0 : Int32)), .val (.ref (w 6)), .val (.int (0 : Int32))] [(.int (1 : Int32)), (.int (0 : Int32)), (.ref (w 6))])) rfl (by rw [hml]; rfl) (Steps.refl _) (argsL := [(.int (0 : Int32)), (.int (1 : Int32))]) (rest := []) (lenOf pd0 rfl) rfl (by show 2 * 0 + _ ≤ _; exact Nat.le_of_eq rfl) (hb hby at_281) (fun _ _ => ⟨rfl, e37, (by decide : 0 + 0 ≤ _), (by decide : 0 + 0 ≤ _)⟩)
        dsimp only [Pt.U, Pt.locs, Pt.cells, Pt.slots] at X39 l39 y39 z39 st39 hQ39
        subst l39 y39 z39
        obtain ⟨rfl, Nq39, e39⟩ := hQ39
        have N39 := Fr.app N0 Nq39
        refine Goes.tr st39 ?_
        refine Goes.by (fun _ kz => XS.iload X39.here hx rfl (hb hby at_284) rfl (XS.icmpNo X39.here hx rfl (hb hby at_286) rfl (teq (by decide : (0 : Int32) = (0 : Int32))).2 (XS.iconst X39.here hx rfl (hb hby at_289) kz))) ?_
        show Goes p e below (T39.setTop (mkF m 290 #[.val (.int p1), .val (.int p2), .val (.int p3), .val (.int (3 : Int32)), .val (.int (0 : Int32)), .val (.int (1 : Int32)), .val (.int (1 : Int32)), .val (.int (0 : Int32)), .val (.int (0 : Int32)), .val (.ref (w 6)), .val (.int (0 : Int32))] [(.int (1 : Int32))])) _
        refine Goes.by (fun _ kz => XS.goto X39.here hx rfl (pc0 := 290) (pc' := 294) rfl (hb hby at_290) (by decide) (by decide) kz) ?_
        show Goes p e below (T39.setTop (mkF m 294 #[.val (.int p1), .val (.int p2), .val (.int p3), .val (.int (3 : Int32)), .val (.int (0 : Int32)), .val (.int (1 : Int32)), .val (.int (1 : Int32)), .val (.int (0 : Int32)), .val (.int (0 : Int32)), .val (.ref (w 6)), .val (.int (0 : Int32))] [(.int (1 : Int32))])) _
        obtain ⟨fs, hr, hrun, hended, hW, hsame⟩ := X39.leave (v := some (.int (1 : Int32))) (fun h => by rw [Bd.returns] at h; cases h)
        exact ⟨_, _, retN X39 hx (t := .boolean) Bd.returns (by simp) (hb hby at_294) hr, hrun, hended, _, _, rfl, ⟨rfl, N39⟩, ⟨_, rfl⟩, hW, hsame.mono (by decide) (by decide)⟩
      · show Goes p e below (s₁.setTop (mkF m 65 #[.val (.int p1), .val (.int p2), .val (.int p3), .val (.int (4 : Int32)), .val (.int (0 : Int32)), .val (.int (1 : Int32)), .val (.int (1 : Int32)), .val (.int (0 : Int32)), .val (.int (0 : Int32)), .unset, .unset] [])) _
        refine Goes.by (fun _ kz => XS.iloadN X0.here hx rfl (hb hby at_65) rfl (XS.ifYes X0.here hx rfl (pc0 := 66) (pc' := 80) rfl (hb hby at_66) rfl ((if0 _ _).trans (feq (by decide : ¬ ((4 : Int32) = (0 : Int32)))).2) (by decide) (by decide) (XS.iloadN X0.here hx rfl (hb hby at_80) rfl kz))) ?_
        show Goes p e below (s₁.setTop (mkF m 81 #[.val (.int p1), .val (.int p2), .val (.int p3), .val (.int (4 : Int32)), .val (.int (0 : Int32)), .val (.int (1 : Int32)), .val (.int (1 : Int32)), .val (.int (0 : Int32)), .val (.int (0 : Int32)), .unset, .unset] [(.int (4 : Int32))])) _
        refine Goes.by (fun _ kz => XS.iconst X0.here hx rfl (hb hby at_81) (XS.icmpYes X0.here hx rfl (pc0 := 82) (pc' := 110) rfl (hb hby at_82) rfl (feq (by decide : ¬ ((4 : Int32) = (1 : Int32)))).2 (by decide) (by decide) (XS.iloadN X0.here hx rfl (hb hby at_110) rfl kz))) ?_
        show Goes p e below (s₁.setTop (mkF m 111 #[.val (.int p1), .val (.int p2), .val (.int p3), .val (.int (4 : Int32)), .val (.int (0 : Int32)), .val (.int (1 : Int32)), .val (.int (1 : Int32)), .val (.int (0 : Int32)), .val (.int (0 : Int32)), .unset, .unset] [(.int (4 : Int32))])) _
        refine Goes.by (fun _ kz => XS.iconst X0.here hx rfl (hb hby at_111) (XS.icmpYes X0.here hx rfl (pc0 := 112) (pc' := 140) rfl (hb hby at_112) rfl (feq (by decide : ¬ ((4 : Int32) = (2 : Int32)))).2 (by decide) (by decide) (XS.iloadN X0.here hx rfl (hb hby at_140) rfl kz))) ?_
        show Goes p e below (s₁.setTop (mkF m 141 #[.val (.int p1), .val (.int p2), .val (.int p3), .val (.int (4 : Int32)), .val (.int (0 : Int32)), .val (.int (1 : Int32)), .val (.int (1 : Int32)), .val (.int (0 : Int32)), .val (.int (0 : Int32)), .unset, .unset] [(.int (4 : Int32))])) _
        refine Goes.by (fun _ kz => XS.iconst X0.here hx rfl (hb hby at_141) (XS.icmpYes X0.here hx rfl (pc0 := 142) (pc' := 157) rfl (hb hby at_142) rfl (feq (by decide : ¬ ((4 : Int32) = (3 : Int32)))).2 (by decide) (by decide) (XS.iloadN X0.here hx rfl (hb hby at_157) rfl kz))) ?_
        show Goes p e below (s₁.setTop (mkF m 158 #[.val (.int p1), .val (.int p2), .val (.int p3), .val (.int (4 : Int32)), .val (.int (0 : Int32)), .val (.int (1 : Int32)), .val (.int (1 : Int32)), .val (.int (0 : Int32)), .val (.int (0 : Int32)), .unset, .unset] [(.int (4 : Int32))])) _
        refine Goes.by (fun _ kz => XS.iconst X0.here hx rfl (hb hby at_158) (XS.icmpNo X0.here hx rfl (hb hby at_159) rfl (teq (by decide : (4 : Int32) = (4 : Int32))).2 kz)) ?_
        obtain ⟨T40, X40, e40, st40⟩ := getS2 X0 hx hZ hown (host := "") (Or.inl (hw _ (List.mem_of_getElem? (i := 29) rfl))) Via.refl e0 P.2.2.2.2.2.2.2.2.2.2.2.2.2.2.1 (g := (mkF m 162 #[.val (.int p1), .val (.int p2), .val (.int p3), .val (.int (4 : Int32)), .val (.int (0 : Int32)), .val (.int (1 : Int32)), .val (.int (1 : Int32)), .val (.int (0 : Int32)), .val (.int (0 : Int32)), .unset, .unset] [])) rfl (hb hby at_162)
        refine Goes.by st40 ?_
        refine Goes.by (fun _ kz => XS.astore X40.here hx rfl (hb hby at_165) rfl rfl (l' := #[.val (.int p1), .val (.int p2), .val (.int p3), .val (.int (4 : Int32)), .val (.int (0 : Int32)), .val (.int (1 : Int32)), .val (.int (1 : Int32)), .val (.int (0 : Int32)), .val (.int (0 : Int32)), .val (.ref (w 7)), .unset]) rfl (XS.iload X40.here hx rfl (hb hby at_167) rfl (XS.ifYes X40.here hx rfl (pc0 := 169) (pc' := 181) rfl (hb hby at_169) rfl ((if0 _ _).trans (teq (by decide : (0 : Int32) = (0 : Int32))).1) (by decide) (by decide) kz))) ?_
        show Goes p e below (T40.setTop (mkF m 181 #[.val (.int p1), .val (.int p2), .val (.int p3), .val (.int (4 : Int32)), .val (.int (0 : Int32)), .val (.int (1 : Int32)), .val (.int (1 : Int32)), .val (.int (0 : Int32)), .val (.int (0 : Int32)), .val (.ref (w 7)), .unset] [])) _
        refine Goes.by (fun _ kz => XS.iconst X40.here hx rfl (hb hby at_181) (XS.istore X40.here hx rfl (hb hby at_182) rfl (l' := #[.val (.int p1), .val (.int p2), .val (.int p3), .val (.int (4 : Int32)), .val (.int (0 : Int32)), .val (.int (1 : Int32)), .val (.int (1 : Int32)), .val (.int (0 : Int32)), .val (.int (0 : Int32)), .val (.ref (w 7)), .val (.int (0 : Int32))]) rfl (XS.goto X40.here hx rfl (pc0 := 184) (pc' := 275) rfl (hb hby at_184) (by decide) (by decide) kz))) ?_
        show Goes p e below (T40.setTop (mkF m 275 #[.val (.int p1), .val (.int p2), .val (.int p3), .val (.int (4 : Int32)), .val (.int (0 : Int32)), .val (.int (1 : Int32)), .val (.int (1 : Int32)), .val (.int (0 : Int32)), .val (.int (0 : Int32)), .val (.ref (w 7)), .val (.int (0 : Int32))] [])) _
        refine Goes.by (fun _ kz => XS.aload X40.here hx rfl (hb hby at_275) rfl rfl (XS.iload X40.here hx rfl (hb hby at_277) rfl (XS.iload X40.here hx rfl (hb hby at_279) rfl kz))) ?_
        obtain ⟨cq42, kq42, q42a, q42b, q42c⟩ := isOf hZ e40 P.2.2.2.2.2.2.2.2.2.2.2.2.2.2.2.1
        obtain ⟨_, _, ⟨T42, L42, k42, n42⟩, -, X42, ⟨Lc42, hQ42, l42, y42, z42⟩, st42⟩ := X40.virtualBack hx (y := (⟨"com/example/entail/entail/model/Scope", "reaches", "(IZ)Z"⟩ : MethodName)) (z := (⟨"com/example/entail/entail/model/Scope", "reaches", "(IZ)Z"⟩ : MethodName)) hown (mvT hZ (hw _ (List.mem_of_getElem? (i := 4) rfl))) (mvT hZ (hw _ (List.mem_of_getElem? (i := 5) rfl))) (notFace_of_selects (args := #[]) (mvT hZ (hw _ (List.mem_of_getElem? (i := 7) rfl)))) (mvT hZ (hw _ (List.mem_of_getElem? (i := 7) rfl))) (mvT hZ (hw _ (List.mem_of_getElem? (i := 6) rfl))) (by decide) (backOf (W := 0) (r1_13 l Z a0 hw [] h0 n0 Z0 w P) hZ (hw _ (List.mem_of_getElem? (i := 8) rfl)) (hw _ (List.mem_of_getElem? (i := 2) rfl)) (by decide) (by decide)) q42a q42c (g := (mkF m 281 #[.val (.int p1), .val (.int p2), .val (.int p3), .val (.int (4 : Int32)), .val (.int (0 : Int32)), .val (.int (1 : Int32)), .val (.int (1 : Int32)), .val (.int (0 : Int32)), .val (.int (0 : Int32)), .val (.ref (w 7)), .val (.int (0 : Int32))] [(.int (1 : Int32)), (.int (0 : Int32)), (.ref (w 7))])) rfl (by rw [hml]; rfl) (Steps.refl _) (argsL := [(.int (0 : Int32)), (.int (1 : Int32))]) (rest := []) (lenOf pd0 rfl) rfl (by show 2 * 0 + _ ≤ _; exact Nat.le_of_eq rfl) (hb hby at_281) (fun _ _ => ⟨rfl, e40, (by decide : 0 + 0 ≤ _), (by decide : 0 + 0 ≤ _)⟩)
        dsimp only [Pt.U, Pt.locs, Pt.cells, Pt.slots] at X42 l42 y42 z42 st42 hQ42
        subst l42 y42 z42
        obtain ⟨rfl, Nq42, e42⟩ := hQ42
        have N42 := Fr.app N0 Nq42
        refine Goes.tr st42 ?_
        refine Goes.by (fun _ kz => XS.iload X42.here hx rfl (hb hby at_284) rfl (XS.icmpNo X42.here hx rfl (hb hby at_286) rfl (teq (by decide : (0 : Int32) = (0 : Int32))).2 (XS.iconst X42.here hx rfl (hb hby at_289) kz))) ?_
        show Goes p e below (T42.setTop (mkF m 290 #[.val (.int p1), .val (.int p2), .val (.int p3), .val (.int (4 : Int32)), .val (.int (0 : Int32)), .val (.int (1 : Int32)), .val (.int (1 : Int32)), .val (.int (0 : Int32)), .val (.int (0 : Int32)), .val (.ref (w 7)), .val (.int (0 : Int32))] [(.int (1 : Int32))])) _
        refine Goes.by (fun _ kz => XS.goto X42.here hx rfl (pc0 := 290) (pc' := 294) rfl (hb hby at_290) (by decide) (by decide) kz) ?_
        show Goes p e below (T42.setTop (mkF m 294 #[.val (.int p1), .val (.int p2), .val (.int p3), .val (.int (4 : Int32)), .val (.int (0 : Int32)), .val (.int (1 : Int32)), .val (.int (1 : Int32)), .val (.int (0 : Int32)), .val (.int (0 : Int32)), .val (.ref (w 7)), .val (.int (0 : Int32))] [(.int (1 : Int32))])) _
        obtain ⟨fs, hr, hrun, hended, hW, hsame⟩ := X42.leave (v := some (.int (1 : Int32))) (fun h => by rw [Bd.returns] at h; cases h)
        exact ⟨_, _, retN X42 hx (t := .boolean) Bd.returns (by simp) (hb hby at_294) hr, hrun, hended, _, _, rfl, ⟨rfl, N42⟩, ⟨_, rfl⟩, hW, hsame.mono (by decide) (by decide)⟩
      · show Goes p e below (s₁.setTop (mkF m 65 #[.val (.int p1), .val (.int p2), .val (.int p3), .val (.int (5 : Int32)), .val (.int (0 : Int32)), .val (.int (1 : Int32)), .val (.int (1 : Int32)), .val (.int (0 : Int32)), .val (.int (0 : Int32)), .unset, .unset] [])) _
        refine Goes.by (fun _ kz => XS.iloadN X0.here hx rfl (hb hby at_65) rfl (XS.ifYes X0.here hx rfl (pc0 := 66) (pc' := 80) rfl (hb hby at_66) rfl ((if0 _ _).trans (feq (by decide : ¬ ((5 : Int32) = (0 : Int32)))).2) (by decide) (by decide) (XS.iloadN X0.here hx rfl (hb hby at_80) rfl kz))) ?_
        show Goes p e below (s₁.setTop (mkF m 81 #[.val (.int p1), .val (.int p2), .val (.int p3), .val (.int (5 : Int32)), .val (.int (0 : Int32)), .val (.int (1 : Int32)), .val (.int (1 : Int32)), .val (.int (0 : Int32)), .val (.int (0 : Int32)), .unset, .unset] [(.int (5 : Int32))])) _
        refine Goes.by (fun _ kz => XS.iconst X0.here hx rfl (hb hby at_81) (XS.icmpYes X0.here hx rfl (pc0 := 82) (pc' := 110) rfl (hb hby at_82) rfl (feq (by decide : ¬ ((5 : Int32) = (1 : Int32)))).2 (by decide) (by decide) (XS.iloadN X0.here hx rfl (hb hby at_110) rfl kz))) ?_
        show Goes p e below (s₁.setTop (mkF m 111 #[.val (.int p1), .val (.int p2), .val (.int p3), .val (.int (5 : Int32)), .val (.int (0 : Int32)), .val (.int (1 : Int32)), .val (.int (1 : Int32)), .val (.int (0 : Int32)), .val (.int (0 : Int32)), .unset, .unset] [(.int (5 : Int32))])) _
        refine Goes.by (fun _ kz => XS.iconst X0.here hx rfl (hb hby at_111) (XS.icmpYes X0.here hx rfl (pc0 := 112) (pc' := 140) rfl (hb hby at_112) rfl (feq (by decide : ¬ ((5 : Int32) = (2 : Int32)))).2 (by decide) (by decide) (XS.iloadN X0.here hx rfl (hb hby at_140) rfl kz))) ?_
        show Goes p e below (s₁.setTop (mkF m 141 #[.val (.int p1), .val (.int p2), .val (.int p3), .val (.int (5 : Int32)), .val (.int (0 : Int32)), .val (.int (1 : Int32)), .val (.int (1 : Int32)), .val (.int (0 : Int32)), .val (.int (0 : Int32)), .unset, .unset] [(.int (5 : Int32))])) _
        refine Goes.by (fun _ kz => XS.iconst X0.here hx rfl (hb hby at_141) (XS.icmpYes X0.here hx rfl (pc0 := 142) (pc' := 157) rfl (hb hby at_142) rfl (feq (by decide : ¬ ((5 : Int32) = (3 : Int32)))).2 (by decide) (by decide) (XS.iloadN X0.here hx rfl (hb hby at_157) rfl kz))) ?_
        show Goes p e below (s₁.setTop (mkF m 158 #[.val (.int p1), .val (.int p2), .val (.int p3), .val (.int (5 : Int32)), .val (.int (0 : Int32)), .val (.int (1 : Int32)), .val (.int (1 : Int32)), .val (.int (0 : Int32)), .val (.int (0 : Int32)), .unset, .unset] [(.int (5 : Int32))])) _
        refine Goes.by (fun _ kz => XS.iconst X0.here hx rfl (hb hby at_158) (XS.icmpYes X0.here hx rfl (pc0 := 159) (pc' := 187) rfl (hb hby at_159) rfl (feq (by decide : ¬ ((5 : Int32) = (4 : Int32)))).2 (by decide) (by decide) (XS.iloadN X0.here hx rfl (hb hby at_187) rfl kz))) ?_
        show Goes p e below (s₁.setTop (mkF m 188 #[.val (.int p1), .val (.int p2), .val (.int p3), .val (.int (5 : Int32)), .val (.int (0 : Int32)), .val (.int (1 : Int32)), .val (.int (1 : Int32)), .val (.int (0 : Int32)), .val (.int (0 : Int32)), .unset, .unset] [(.int (5 : Int32))])) _
        refine Goes.by (fun _ kz => XS.iconst X0.here hx rfl (hb hby at_188) (XS.icmpNo X0.here hx rfl (hb hby at_189) rfl (teq (by decide : (5 : Int32) = (5 : Int32))).2 kz)) ?_
        obtain ⟨T43, X43, e43, st43⟩ := getS2 X0 hx hZ hown (host := "") (Or.inl (hw _ (List.mem_of_getElem? (i := 31) rfl))) Via.refl e0 P.2.2.2.2.2.2.2.2.2.2.2.2.2.2.2.2.1 (g := (mkF m 192 #[.val (.int p1), .val (.int p2), .val (.int p3), .val (.int (5 : Int32)), .val (.int (0 : Int32)), .val (.int (1 : Int32)), .val (.int (1 : Int32)), .val (.int (0 : Int32)), .val (.int (0 : Int32)), .unset, .unset] [])) rfl (hb hby at_192)
        refine Goes.by st43 ?_
        refine Goes.by (fun _ kz => XS.astore X43.here hx rfl (hb hby at_195) rfl rfl (l' := #[.val (.int p1), .val (.int p2), .val (.int p3), .val (.int (5 : Int32)), .val (.int (0 : Int32)), .val (.int (1 : Int32)), .val (.int (1 : Int32)), .val (.int (0 : Int32)), .val (.int (0 : Int32)), .val (.ref (w 8)), .unset]) rfl (XS.iload X43.here hx rfl (hb hby at_197) rfl (XS.ifYes X43.here hx rfl (pc0 := 199) (pc' := 211) rfl (hb hby at_199) rfl ((if0 _ _).trans (teq (by decide : (0 : Int32) = (0 : Int32))).1) (by decide) (by decide) kz))) ?_
        show Goes p e below (T43.setTop (mkF m 211 #[.val (.int p1), .val (.int p2), .val (.int p3), .val (.int (5 : Int32)), .val (.int (0 : Int32)), .val (.int (1 : Int32)), .val (.int (1 : Int32)), .val (.int (0 : Int32)), .val (.int (0 : Int32)), .val (.ref (w 8)), .unset] [])) _
        refine Goes.by (fun _ kz => XS.iconst X43.here hx rfl (hb hby at_211) (XS.istore X43.here hx rfl (hb hby at_212) rfl (l' := #[.val (.int p1), .val (.int p2), .val (.int p3), .val (.int (5 : Int32)), .val (.int (0 : Int32)), .val (.int (1 : Int32)), .val (.int (1 : Int32)), .val (.int (0 : Int32)), .val (.int (0 : Int32)), .val (.ref (w 8)), .val (.int (0 : Int32))]) rfl (XS.goto X43.here hx rfl (pc0 := 214) (pc' := 275) rfl (hb hby at_214) (by decide) (by decide) kz))) ?_
        show Goes p e below (T43.setTop (mkF m 275 #[.val (.int p1), .val (.int p2), .val (.int p3), .val (.int (5 : Int32)), .val (.int (0 : Int32)), .val (.int (1 : Int32)), .val (.int (1 : Int32)), .val (.int (0 : Int32)), .val (.int (0 : Int32)), .val (.ref (w 8)), .val (.int (0 : Int32))] [])) _
        refine Goes.by (fun _ kz => XS.aload X43.here hx rfl (hb hby at_275) rfl rfl (XS.iload X43.here hx rfl (hb hby at_277) rfl (XS.iload X43.here hx rfl (hb hby at_279) rfl kz))) ?_
        obtain ⟨cq45, kq45, q45a, q45b, q45c⟩ := isOf hZ e43 P.2.2.2.2.2.2.2.2.2.2.2.2.2.2.2.2.2.1
        obtain ⟨_, _, ⟨T45, L45, k45, n45⟩, -, X45, ⟨Lc45, hQ45, l45, y45, z45⟩, st45⟩ := X43.virtualBack hx (y := (⟨"com/example/entail/entail/model/Scope", "reaches", "(IZ)Z"⟩ : MethodName)) (z := (⟨"com/example/entail/entail/model/Scope", "reaches", "(IZ)Z"⟩ : MethodName)) hown (mvT hZ (hw _ (List.mem_of_getElem? (i := 4) rfl))) (mvT hZ (hw _ (List.mem_of_getElem? (i := 5) rfl))) (notFace_of_selects (args := #[]) (mvT hZ (hw _ (List.mem_of_getElem? (i := 7) rfl)))) (mvT hZ (hw _ (List.mem_of_getElem? (i := 7) rfl))) (mvT hZ (hw _ (List.mem_of_getElem? (i := 6) rfl))) (by decide) (backOf (W := 0) (r1_14 l Z a0 hw [] h0 n0 Z0 w P) hZ (hw _ (List.mem_of_getElem? (i := 8) rfl)) (hw _ (List.mem_of_getElem? (i := 2) rfl)) (by decide) (by decide)) q45a q45c (g := (mkF m 281 #[.val (.int p1), .val (.int p2), .val (.int p3), .val (.int (5 : Int32)), .val (.int (0 : Int32)), .val (.int (1 : Int32)), .val (.int (1 : Int32)), .val (.int (0 : Int32)), .val (.int (0 : Int32)), .val (.ref (w 8)), .val (.int (0 : Int32))] [(.int (1 : Int32)), (.int (0 : Int32)), (.ref (w 8))])) rfl (by rw [hml]; rfl) (Steps.refl _) (argsL := [(.int (0 : Int32)), (.int (1 : Int32))]) (rest := []) (lenOf pd0 rfl) rfl (by show 2 * 0 + _ ≤ _; exact Nat.le_of_eq rfl) (hb hby at_281) (fun _ _ => ⟨rfl, e43, (by decide : 0 + 0 ≤ _), (by decide : 0 + 0 ≤ _)⟩)
        dsimp only [Pt.U, Pt.locs, Pt.cells, Pt.slots] at X45 l45 y45 z45 st45 hQ45
        subst l45 y45 z45
        obtain ⟨rfl, Nq45, e45⟩ := hQ45
        have N45 := Fr.app N0 Nq45
        refine Goes.tr st45 ?_
        refine Goes.by (fun _ kz => XS.iload X45.here hx rfl (hb hby at_284) rfl (XS.icmpNo X45.here hx rfl (hb hby at_286) rfl (teq (by decide : (0 : Int32) = (0 : Int32))).2 (XS.iconst X45.here hx rfl (hb hby at_289) kz))) ?_
        show Goes p e below (T45.setTop (mkF m 290 #[.val (.int p1), .val (.int p2), .val (.int p3), .val (.int (5 : Int32)), .val (.int (0 : Int32)), .val (.int (1 : Int32)), .val (.int (1 : Int32)), .val (.int (0 : Int32)), .val (.int (0 : Int32)), .val (.ref (w 8)), .val (.int (0 : Int32))] [(.int (1 : Int32))])) _
        refine Goes.by (fun _ kz => XS.goto X45.here hx rfl (pc0 := 290) (pc' := 294) rfl (hb hby at_290) (by decide) (by decide) kz) ?_
        show Goes p e below (T45.setTop (mkF m 294 #[.val (.int p1), .val (.int p2), .val (.int p3), .val (.int (5 : Int32)), .val (.int (0 : Int32)), .val (.int (1 : Int32)), .val (.int (1 : Int32)), .val (.int (0 : Int32)), .val (.int (0 : Int32)), .val (.ref (w 8)), .val (.int (0 : Int32))] [(.int (1 : Int32))])) _
        obtain ⟨fs, hr, hrun, hended, hW, hsame⟩ := X45.leave (v := some (.int (1 : Int32))) (fun h => by rw [Bd.returns] at h; cases h)
        exact ⟨_, _, retN X45 hx (t := .boolean) Bd.returns (by simp) (hb hby at_294) hr, hrun, hended, _, _, rfl, ⟨rfl, N45⟩, ⟨_, rfl⟩, hW, hsame.mono (by decide) (by decide)⟩
      · show Goes p e below (s₁.setTop (mkF m 65 #[.val (.int p1), .val (.int p2), .val (.int p3), .val (.int (6 : Int32)), .val (.int (0 : Int32)), .val (.int (1 : Int32)), .val (.int (1 : Int32)), .val (.int (0 : Int32)), .val (.int (0 : Int32)), .unset, .unset] [])) _
        refine Goes.by (fun _ kz => XS.iloadN X0.here hx rfl (hb hby at_65) rfl (XS.ifYes X0.here hx rfl (pc0 := 66) (pc' := 80) rfl (hb hby at_66) rfl ((if0 _ _).trans (feq (by decide : ¬ ((6 : Int32) = (0 : Int32)))).2) (by decide) (by decide) (XS.iloadN X0.here hx rfl (hb hby at_80) rfl kz))) ?_
        show Goes p e below (s₁.setTop (mkF m 81 #[.val (.int p1), .val (.int p2), .val (.int p3), .val (.int (6 : Int32)), .val (.int (0 : Int32)), .val (.int (1 : Int32)), .val (.int (1 : Int32)), .val (.int (0 : Int32)), .val (.int (0 : Int32)), .unset, .unset] [(.int (6 : Int32))])) _
        refine Goes.by (fun _ kz => XS.iconst X0.here hx rfl (hb hby at_81) (XS.icmpYes X0.here hx rfl (pc0 := 82) (pc' := 110) rfl (hb hby at_82) rfl (feq (by decide : ¬ ((6 : Int32) = (1 : Int32)))).2 (by decide) (by decide) (XS.iloadN X0.here hx rfl (hb hby at_110) rfl kz))) ?_
        show Goes p e below (s₁.setTop (mkF m 111 #[.val (.int p1), .val (.int p2), .val (.int p3), .val (.int (6 : Int32)), .val (.int (0 : Int32)), .val (.int (1 : Int32)), .val (.int (1 : Int32)), .val (.int (0 : Int32)), .val (.int (0 : Int32)), .unset, .unset] [(.int (6 : Int32))])) _
        refine Goes.by (fun _ kz => XS.iconst X0.here hx rfl (hb hby at_111) (XS.icmpYes X0.here hx rfl (pc0 := 112) (pc' := 140) rfl (hb hby at_112) rfl (feq (by decide : ¬ ((6 : Int32) = (2 : Int32)))).2 (by decide) (by decide) (XS.iloadN X0.here hx rfl (hb hby at_140) rfl kz))) ?_
        show Goes p e below (s₁.setTop (mkF m 141 #[.val (.int p1), .val (.int p2), .val (.int p3), .val (.int (6 : Int32)), .val (.int (0 : Int32)), .val (.int (1 : Int32)), .val (.int (1 : Int32)), .val (.int (0 : Int32)), .val (.int (0 : Int32)), .unset, .unset] [(.int (6 : Int32))])) _
        refine Goes.by (fun _ kz => XS.iconst X0.here hx rfl (hb hby at_141) (XS.icmpYes X0.here hx rfl (pc0 := 142) (pc' := 157) rfl (hb hby at_142) rfl (feq (by decide : ¬ ((6 : Int32) = (3 : Int32)))).2 (by decide) (by decide) (XS.iloadN X0.here hx rfl (hb hby at_157) rfl kz))) ?_
        show Goes p e below (s₁.setTop (mkF m 158 #[.val (.int p1), .val (.int p2), .val (.int p3), .val (.int (6 : Int32)), .val (.int (0 : Int32)), .val (.int (1 : Int32)), .val (.int (1 : Int32)), .val (.int (0 : Int32)), .val (.int (0 : Int32)), .unset, .unset] [(.int (6 : Int32))])) _
        refine Goes.by (fun _ kz => XS.iconst X0.here hx rfl (hb hby at_158) (XS.icmpYes X0.here hx rfl (pc0 := 159) (pc' := 187) rfl (hb hby at_159) rfl (feq (by decide : ¬ ((6 : Int32) = (4 : Int32)))).2 (by decide) (by decide) (XS.iloadN X0.here hx rfl (hb hby at_187) rfl kz))) ?_
        show Goes p e below (s₁.setTop (mkF m 188 #[.val (.int p1), .val (.int p2), .val (.int p3), .val (.int (6 : Int32)), .val (.int (0 : Int32)), .val (.int (1 : Int32)), .val (.int (1 : Int32)), .val (.int (0 : Int32)), .val (.int (0 : Int32)), .unset, .unset] [(.int (6 : Int32))])) _
        refine Goes.by (fun _ kz => XS.iconst X0.here hx rfl (hb hby at_188) (XS.icmpYes X0.here hx rfl (pc0 := 189) (pc' := 217) rfl (hb hby at_189) rfl (feq (by decide : ¬ ((6 : Int32) = (5 : Int32)))).2 (by decide) (by decide) (XS.iloadN X0.here hx rfl (hb hby at_217) rfl kz))) ?_
        show Goes p e below (s₁.setTop (mkF m 218 #[.val (.int p1), .val (.int p2), .val (.int p3), .val (.int (6 : Int32)), .val (.int (0 : Int32)), .val (.int (1 : Int32)), .val (.int (1 : Int32)), .val (.int (0 : Int32)), .val (.int (0 : Int32)), .unset, .unset] [(.int (6 : Int32))])) _
        refine Goes.by (fun _ kz => XS.bipush X0.here hx rfl (hb hby at_218) (XS.icmpNo X0.here hx rfl (hb hby at_220) rfl (teq (by decide : (6 : Int32) = (6 : Int32))).2 kz)) ?_
        obtain ⟨T46, X46, e46, st46⟩ := getS2 X0 hx hZ hown (host := "") (Or.inl (hw _ (List.mem_of_getElem? (i := 21) rfl))) Via.refl e0 P.2.2.2.2.2.2.2.2.1 (g := (mkF m 223 #[.val (.int p1), .val (.int p2), .val (.int p3), .val (.int (6 : Int32)), .val (.int (0 : Int32)), .val (.int (1 : Int32)), .val (.int (1 : Int32)), .val (.int (0 : Int32)), .val (.int (0 : Int32)), .unset, .unset] [])) rfl (hb hby at_223)
        refine Goes.by st46 ?_
        refine Goes.by (fun _ kz => XS.astore X46.here hx rfl (hb hby at_226) rfl rfl (l' := #[.val (.int p1), .val (.int p2), .val (.int p3), .val (.int (6 : Int32)), .val (.int (0 : Int32)), .val (.int (1 : Int32)), .val (.int (1 : Int32)), .val (.int (0 : Int32)), .val (.int (0 : Int32)), .val (.ref (w 4)), .unset]) rfl (XS.iload X46.here hx rfl (hb hby at_228) rfl (XS.istore X46.here hx rfl (hb hby at_230) rfl (l' := #[.val (.int p1), .val (.int p2), .val (.int p3), .val (.int (6 : Int32)), .val (.int (0 : Int32)), .val (.int (1 : Int32)), .val (.int (1 : Int32)), .val (.int (0 : Int32)), .val (.int (0 : Int32)), .val (.ref (w 4)), .val (.int (0 : Int32))]) rfl kz))) ?_
        show Goes p e below (T46.setTop (mkF m 232 #[.val (.int p1), .val (.int p2), .val (.int p3), .val (.int (6 : Int32)), .val (.int (0 : Int32)), .val (.int (1 : Int32)), .val (.int (1 : Int32)), .val (.int (0 : Int32)), .val (.int (0 : Int32)), .val (.ref (w 4)), .val (.int (0 : Int32))] [])) _
        refine Goes.by (fun _ kz => XS.goto X46.here hx rfl (pc0 := 232) (pc' := 275) rfl (hb hby at_232) (by decide) (by decide) (XS.aload X46.here hx rfl (hb hby at_275) rfl rfl (XS.iload X46.here hx rfl (hb hby at_277) rfl kz))) ?_
        show Goes p e below (T46.setTop (mkF m 279 #[.val (.int p1), .val (.int p2), .val (.int p3), .val (.int (6 : Int32)), .val (.int (0 : Int32)), .val (.int (1 : Int32)), .val (.int (1 : Int32)), .val (.int (0 : Int32)), .val (.int (0 : Int32)), .val (.ref (w 4)), .val (.int (0 : Int32))] [(.int (0 : Int32)), (.ref (w 4))])) _
        refine Goes.by (fun _ kz => XS.iload X46.here hx rfl (hb hby at_279) rfl kz) ?_
        obtain ⟨cq48, kq48, q48a, q48b, q48c⟩ := isOf hZ e46 P.2.2.2.2.2.2.2.2.2.1
        obtain ⟨_, _, ⟨T48, L48, k48, n48⟩, -, X48, ⟨Lc48, hQ48, l48, y48, z48⟩, st48⟩ := X46.virtualBack hx (y := (⟨"com/example/entail/entail/model/Scope", "reaches", "(IZ)Z"⟩ : MethodName)) (z := (⟨"com/example/entail/entail/model/Scope", "reaches", "(IZ)Z"⟩ : MethodName)) hown (mvT hZ (hw _ (List.mem_of_getElem? (i := 4) rfl))) (mvT hZ (hw _ (List.mem_of_getElem? (i := 5) rfl))) (notFace_of_selects (args := #[]) (mvT hZ (hw _ (List.mem_of_getElem? (i := 7) rfl)))) (mvT hZ (hw _ (List.mem_of_getElem? (i := 7) rfl))) (mvT hZ (hw _ (List.mem_of_getElem? (i := 6) rfl))) (by decide) (backOf (W := 0) (r1_15 l Z a0 hw [] h0 n0 Z0 w P) hZ (hw _ (List.mem_of_getElem? (i := 8) rfl)) (hw _ (List.mem_of_getElem? (i := 2) rfl)) (by decide) (by decide)) q48a q48c (g := (mkF m 281 #[.val (.int p1), .val (.int p2), .val (.int p3), .val (.int (6 : Int32)), .val (.int (0 : Int32)), .val (.int (1 : Int32)), .val (.int (1 : Int32)), .val (.int (0 : Int32)), .val (.int (0 : Int32)), .val (.ref (w 4)), .val (.int (0 : Int32))] [(.int (1 : Int32)), (.int (0 : Int32)), (.ref (w 4))])) rfl (by rw [hml]; rfl) (Steps.refl _) (argsL := [(.int (0 : Int32)), (.int (1 : Int32))]) (rest := []) (lenOf pd0 rfl) rfl (by show 2 * 0 + _ ≤ _; exact Nat.le_of_eq rfl) (hb hby at_281) (fun _ _ => ⟨rfl, e46, (by decide : 0 + 0 ≤ _), (by decide : 0 + 0 ≤ _)⟩)
        dsimp only [Pt.U, Pt.locs, Pt.cells, Pt.slots] at X48 l48 y48 z48 st48 hQ48
        subst l48 y48 z48
        obtain ⟨rfl, Nq48, e48⟩ := hQ48
        have N48 := Fr.app N0 Nq48
        refine Goes.tr st48 ?_
        refine Goes.by (fun _ kz => XS.iload X48.here hx rfl (hb hby at_284) rfl (XS.icmpNo X48.here hx rfl (hb hby at_286) rfl (teq (by decide : (0 : Int32) = (0 : Int32))).2 (XS.iconst X48.here hx rfl (hb hby at_289) kz))) ?_
        show Goes p e below (T48.setTop (mkF m 290 #[.val (.int p1), .val (.int p2), .val (.int p3), .val (.int (6 : Int32)), .val (.int (0 : Int32)), .val (.int (1 : Int32)), .val (.int (1 : Int32)), .val (.int (0 : Int32)), .val (.int (0 : Int32)), .val (.ref (w 4)), .val (.int (0 : Int32))] [(.int (1 : Int32))])) _
        refine Goes.by (fun _ kz => XS.goto X48.here hx rfl (pc0 := 290) (pc' := 294) rfl (hb hby at_290) (by decide) (by decide) kz) ?_
        show Goes p e below (T48.setTop (mkF m 294 #[.val (.int p1), .val (.int p2), .val (.int p3), .val (.int (6 : Int32)), .val (.int (0 : Int32)), .val (.int (1 : Int32)), .val (.int (1 : Int32)), .val (.int (0 : Int32)), .val (.int (0 : Int32)), .val (.ref (w 4)), .val (.int (0 : Int32))] [(.int (1 : Int32))])) _
        obtain ⟨fs, hr, hrun, hended, hW, hsame⟩ := X48.leave (v := some (.int (1 : Int32))) (fun h => by rw [Bd.returns] at h; cases h)
        exact ⟨_, _, retN X48 hx (t := .boolean) Bd.returns (by simp) (hb hby at_294) hr, hrun, hended, _, _, rfl, ⟨rfl, N48⟩, ⟨_, rfl⟩, hW, hsame.mono (by decide) (by decide)⟩
      · show Goes p e below (s₁.setTop (mkF m 65 #[.val (.int p1), .val (.int p2), .val (.int p3), .val (.int (7 : Int32)), .val (.int (0 : Int32)), .val (.int (1 : Int32)), .val (.int (1 : Int32)), .val (.int (0 : Int32)), .val (.int (0 : Int32)), .unset, .unset] [])) _
        refine Goes.by (fun _ kz => XS.iloadN X0.here hx rfl (hb hby at_65) rfl (XS.ifYes X0.here hx rfl (pc0 := 66) (pc' := 80) rfl (hb hby at_66) rfl ((if0 _ _).trans (feq (by decide : ¬ ((7 : Int32) = (0 : Int32)))).2) (by decide) (by decide) (XS.iloadN X0.here hx rfl (hb hby at_80) rfl kz))) ?_
        show Goes p e below (s₁.setTop (mkF m 81 #[.val (.int p1), .val (.int p2), .val (.int p3), .val (.int (7 : Int32)), .val (.int (0 : Int32)), .val (.int (1 : Int32)), .val (.int (1 : Int32)), .val (.int (0 : Int32)), .val (.int (0 : Int32)), .unset, .unset] [(.int (7 : Int32))])) _
        refine Goes.by (fun _ kz => XS.iconst X0.here hx rfl (hb hby at_81) (XS.icmpYes X0.here hx rfl (pc0 := 82) (pc' := 110) rfl (hb hby at_82) rfl (feq (by decide : ¬ ((7 : Int32) = (1 : Int32)))).2 (by decide) (by decide) (XS.iloadN X0.here hx rfl (hb hby at_110) rfl kz))) ?_
        show Goes p e below (s₁.setTop (mkF m 111 #[.val (.int p1), .val (.int p2), .val (.int p3), .val (.int (7 : Int32)), .val (.int (0 : Int32)), .val (.int (1 : Int32)), .val (.int (1 : Int32)), .val (.int (0 : Int32)), .val (.int (0 : Int32)), .unset, .unset] [(.int (7 : Int32))])) _
        refine Goes.by (fun _ kz => XS.iconst X0.here hx rfl (hb hby at_111) (XS.icmpYes X0.here hx rfl (pc0 := 112) (pc' := 140) rfl (hb hby at_112) rfl (feq (by decide : ¬ ((7 : Int32) = (2 : Int32)))).2 (by decide) (by decide) (XS.iloadN X0.here hx rfl (hb hby at_140) rfl kz))) ?_
        show Goes p e below (s₁.setTop (mkF m 141 #[.val (.int p1), .val (.int p2), .val (.int p3), .val (.int (7 : Int32)), .val (.int (0 : Int32)), .val (.int (1 : Int32)), .val (.int (1 : Int32)), .val (.int (0 : Int32)), .val (.int (0 : Int32)), .unset, .unset] [(.int (7 : Int32))])) _
        refine Goes.by (fun _ kz => XS.iconst X0.here hx rfl (hb hby at_141) (XS.icmpYes X0.here hx rfl (pc0 := 142) (pc' := 157) rfl (hb hby at_142) rfl (feq (by decide : ¬ ((7 : Int32) = (3 : Int32)))).2 (by decide) (by decide) (XS.iloadN X0.here hx rfl (hb hby at_157) rfl kz))) ?_
        show Goes p e below (s₁.setTop (mkF m 158 #[.val (.int p1), .val (.int p2), .val (.int p3), .val (.int (7 : Int32)), .val (.int (0 : Int32)), .val (.int (1 : Int32)), .val (.int (1 : Int32)), .val (.int (0 : Int32)), .val (.int (0 : Int32)), .unset, .unset] [(.int (7 : Int32))])) _
        refine Goes.by (fun _ kz => XS.iconst X0.here hx rfl (hb hby at_158) (XS.icmpYes X0.here hx rfl (pc0 := 159) (pc' := 187) rfl (hb hby at_159) rfl (feq (by decide : ¬ ((7 : Int32) = (4 : Int32)))).2 (by decide) (by decide) (XS.iloadN X0.here hx rfl (hb hby at_187) rfl kz))) ?_
        show Goes p e below (s₁.setTop (mkF m 188 #[.val (.int p1), .val (.int p2), .val (.int p3), .val (.int (7 : Int32)), .val (.int (0 : Int32)), .val (.int (1 : Int32)), .val (.int (1 : Int32)), .val (.int (0 : Int32)), .val (.int (0 : Int32)), .unset, .unset] [(.int (7 : Int32))])) _
        refine Goes.by (fun _ kz => XS.iconst X0.here hx rfl (hb hby at_188) (XS.icmpYes X0.here hx rfl (pc0 := 189) (pc' := 217) rfl (hb hby at_189) rfl (feq (by decide : ¬ ((7 : Int32) = (5 : Int32)))).2 (by decide) (by decide) (XS.iloadN X0.here hx rfl (hb hby at_217) rfl kz))) ?_
        show Goes p e below (s₁.setTop (mkF m 218 #[.val (.int p1), .val (.int p2), .val (.int p3), .val (.int (7 : Int32)), .val (.int (0 : Int32)), .val (.int (1 : Int32)), .val (.int (1 : Int32)), .val (.int (0 : Int32)), .val (.int (0 : Int32)), .unset, .unset] [(.int (7 : Int32))])) _
        refine Goes.by (fun _ kz => XS.bipush X0.here hx rfl (hb hby at_218) (XS.icmpYes X0.here hx rfl (pc0 := 220) (pc' := 235) rfl (hb hby at_220) rfl (feq (by decide : ¬ ((7 : Int32) = (6 : Int32)))).2 (by decide) (by decide) (XS.iloadN X0.here hx rfl (hb hby at_235) rfl kz))) ?_
        show Goes p e below (s₁.setTop (mkF m 236 #[.val (.int p1), .val (.int p2), .val (.int p3), .val (.int (7 : Int32)), .val (.int (0 : Int32)), .val (.int (1 : Int32)), .val (.int (1 : Int32)), .val (.int (0 : Int32)), .val (.int (0 : Int32)), .unset, .unset] [(.int (7 : Int32))])) _
        refine Goes.by (fun _ kz => XS.bipush X0.here hx rfl (hb hby at_236) (XS.icmpNo X0.here hx rfl (hb hby at_238) rfl (teq (by decide : (7 : Int32) = (7 : Int32))).2 kz)) ?_
        obtain ⟨T49, X49, e49, st49⟩ := getS2 X0 hx hZ hown (host := "") (Or.inl (hw _ (List.mem_of_getElem? (i := 23) rfl))) Via.refl e0 P.2.2.2.2.2.2.2.2.2.2.1 (g := (mkF m 241 #[.val (.int p1), .val (.int p2), .val (.int p3), .val (.int (7 : Int32)), .val (.int (0 : Int32)), .val (.int (1 : Int32)), .val (.int (1 : Int32)), .val (.int (0 : Int32)), .val (.int (0 : Int32)), .unset, .unset] [])) rfl (hb hby at_241)
        refine Goes.by st49 ?_
        refine Goes.by (fun _ kz => XS.astore X49.here hx rfl (hb hby at_244) rfl rfl (l' := #[.val (.int p1), .val (.int p2), .val (.int p3), .val (.int (7 : Int32)), .val (.int (0 : Int32)), .val (.int (1 : Int32)), .val (.int (1 : Int32)), .val (.int (0 : Int32)), .val (.int (0 : Int32)), .val (.ref (w 5)), .unset]) rfl (XS.iload X49.here hx rfl (hb hby at_246) rfl (XS.ifYes X49.here hx rfl (pc0 := 248) (pc' := 260) rfl (hb hby at_248) rfl ((if0 _ _).trans (teq (by decide : (0 : Int32) = (0 : Int32))).1) (by decide) (by decide) kz))) ?_
        show Goes p e below (T49.setTop (mkF m 260 #[.val (.int p1), .val (.int p2), .val (.int p3), .val (.int (7 : Int32)), .val (.int (0 : Int32)), .val (.int (1 : Int32)), .val (.int (1 : Int32)), .val (.int (0 : Int32)), .val (.int (0 : Int32)), .val (.ref (w 5)), .unset] [])) _
        refine Goes.by (fun _ kz => XS.iconst X49.here hx rfl (hb hby at_260) (XS.istore X49.here hx rfl (hb hby at_261) rfl (l' := #[.val (.int p1), .val (.int p2), .val (.int p3), .val (.int (7 : Int32)), .val (.int (0 : Int32)), .val (.int (1 : Int32)), .val (.int (1 : Int32)), .val (.int (0 : Int32)), .val (.int (0 : Int32)), .val (.ref (w 5)), .val (.int (0 : Int32))]) rfl (XS.goto X49.here hx rfl (pc0 := 263) (pc' := 275) rfl (hb hby at_263) (by decide) (by decide) kz))) ?_
        show Goes p e below (T49.setTop (mkF m 275 #[.val (.int p1), .val (.int p2), .val (.int p3), .val (.int (7 : Int32)), .val (.int (0 : Int32)), .val (.int (1 : Int32)), .val (.int (1 : Int32)), .val (.int (0 : Int32)), .val (.int (0 : Int32)), .val (.ref (w 5)), .val (.int (0 : Int32))] [])) _
        refine Goes.by (fun _ kz => XS.aload X49.here hx rfl (hb hby at_275) rfl rfl (XS.iload X49.here hx rfl (hb hby at_277) rfl (XS.iload X49.here hx rfl (hb hby at_279) rfl kz))) ?_
        obtain ⟨cq51, kq51, q51a, q51b, q51c⟩ := isOf hZ e49 P.2.2.2.2.2.2.2.2.2.2.2.1
        obtain ⟨_, _, ⟨T51, L51, k51, n51⟩, -, X51, ⟨Lc51, hQ51, l51, y51, z51⟩, st51⟩ := X49.virtualBack hx (y := (⟨"com/example/entail/entail/model/Scope", "reaches", "(IZ)Z"⟩ : MethodName)) (z := (⟨"com/example/entail/entail/model/Scope", "reaches", "(IZ)Z"⟩ : MethodName)) hown (mvT hZ (hw _ (List.mem_of_getElem? (i := 4) rfl))) (mvT hZ (hw _ (List.mem_of_getElem? (i := 5) rfl))) (notFace_of_selects (args := #[]) (mvT hZ (hw _ (List.mem_of_getElem? (i := 7) rfl)))) (mvT hZ (hw _ (List.mem_of_getElem? (i := 7) rfl))) (mvT hZ (hw _ (List.mem_of_getElem? (i := 6) rfl))) (by decide) (backOf (W := 0) (r1_16 l Z a0 hw [] h0 n0 Z0 w P) hZ (hw _ (List.mem_of_getElem? (i := 8) rfl)) (hw _ (List.mem_of_getElem? (i := 2) rfl)) (by decide) (by decide)) q51a q51c (g := (mkF m 281 #[.val (.int p1), .val (.int p2), .val (.int p3), .val (.int (7 : Int32)), .val (.int (0 : Int32)), .val (.int (1 : Int32)), .val (.int (1 : Int32)), .val (.int (0 : Int32)), .val (.int (0 : Int32)), .val (.ref (w 5)), .val (.int (0 : Int32))] [(.int (1 : Int32)), (.int (0 : Int32)), (.ref (w 5))])) rfl (by rw [hml]; rfl) (Steps.refl _) (argsL := [(.int (0 : Int32)), (.int (1 : Int32))]) (rest := []) (lenOf pd0 rfl) rfl (by show 2 * 0 + _ ≤ _; exact Nat.le_of_eq rfl) (hb hby at_281) (fun _ _ => ⟨rfl, e49, (by decide : 0 + 0 ≤ _), (by decide : 0 + 0 ≤ _)⟩)
        dsimp only [Pt.U, Pt.locs, Pt.cells, Pt.slots] at X51 l51 y51 z51 st51 hQ51
        subst l51 y51 z51
        obtain ⟨rfl, Nq51, e51⟩ := hQ51
        have N51 := Fr.app N0 Nq51
        refine Goes.tr st51 ?_
        refine Goes.by (fun _ kz => XS.iload X51.here hx rfl (hb hby at_284) rfl (XS.icmpNo X51.here hx rfl (hb hby at_286) rfl (teq (by decide : (0 : Int32) = (0 : Int32))).2 (XS.iconst X51.here hx rfl (hb hby at_289) kz))) ?_
        show Goes p e below (T51.setTop (mkF m 290 #[.val (.int p1), .val (.int p2), .val (.int p3), .val (.int (7 : Int32)), .val (.int (0 : Int32)), .val (.int (1 : Int32)), .val (.int (1 : Int32)), .val (.int (0 : Int32)), .val (.int (0 : Int32)), .val (.ref (w 5)), .val (.int (0 : Int32))] [(.int (1 : Int32))])) _
        refine Goes.by (fun _ kz => XS.goto X51.here hx rfl (pc0 := 290) (pc' := 294) rfl (hb hby at_290) (by decide) (by decide) kz) ?_
        show Goes p e below (T51.setTop (mkF m 294 #[.val (.int p1), .val (.int p2), .val (.int p3), .val (.int (7 : Int32)), .val (.int (0 : Int32)), .val (.int (1 : Int32)), .val (.int (1 : Int32)), .val (.int (0 : Int32)), .val (.int (0 : Int32)), .val (.ref (w 5)), .val (.int (0 : Int32))] [(.int (1 : Int32))])) _
        obtain ⟨fs, hr, hrun, hended, hW, hsame⟩ := X51.leave (v := some (.int (1 : Int32))) (fun h => by rw [Bd.returns] at h; cases h)
        exact ⟨_, _, retN X51 hx (t := .boolean) Bd.returns (by simp) (hb hby at_294) hr, hrun, hended, _, _, rfl, ⟨rfl, N51⟩, ⟨_, rfl⟩, hW, hsame.mono (by decide) (by decide)⟩
      · show Goes p e below (s₁.setTop (mkF m 65 #[.val (.int p1), .val (.int p2), .val (.int p3), .val (.int (8 : Int32)), .val (.int (0 : Int32)), .val (.int (1 : Int32)), .val (.int (1 : Int32)), .val (.int (0 : Int32)), .val (.int (0 : Int32)), .unset, .unset] [])) _
        refine Goes.by (fun _ kz => XS.iloadN X0.here hx rfl (hb hby at_65) rfl (XS.ifYes X0.here hx rfl (pc0 := 66) (pc' := 80) rfl (hb hby at_66) rfl ((if0 _ _).trans (feq (by decide : ¬ ((8 : Int32) = (0 : Int32)))).2) (by decide) (by decide) (XS.iloadN X0.here hx rfl (hb hby at_80) rfl kz))) ?_
        show Goes p e below (s₁.setTop (mkF m 81 #[.val (.int p1), .val (.int p2), .val (.int p3), .val (.int (8 : Int32)), .val (.int (0 : Int32)), .val (.int (1 : Int32)), .val (.int (1 : Int32)), .val (.int (0 : Int32)), .val (.int (0 : Int32)), .unset, .unset] [(.int (8 : Int32))])) _
        refine Goes.by (fun _ kz => XS.iconst X0.here hx rfl (hb hby at_81) (XS.icmpYes X0.here hx rfl (pc0 := 82) (pc' := 110) rfl (hb hby at_82) rfl (feq (by decide : ¬ ((8 : Int32) = (1 : Int32)))).2 (by decide) (by decide) (XS.iloadN X0.here hx rfl (hb hby at_110) rfl kz))) ?_
        show Goes p e below (s₁.setTop (mkF m 111 #[.val (.int p1), .val (.int p2), .val (.int p3), .val (.int (8 : Int32)), .val (.int (0 : Int32)), .val (.int (1 : Int32)), .val (.int (1 : Int32)), .val (.int (0 : Int32)), .val (.int (0 : Int32)), .unset, .unset] [(.int (8 : Int32))])) _
        refine Goes.by (fun _ kz => XS.iconst X0.here hx rfl (hb hby at_111) (XS.icmpYes X0.here hx rfl (pc0 := 112) (pc' := 140) rfl (hb hby at_112) rfl (feq (by decide : ¬ ((8 : Int32) = (2 : Int32)))).2 (by decide) (by decide) (XS.iloadN X0.here hx rfl (hb hby at_140) rfl kz))) ?_
        show Goes p e below (s₁.setTop (mkF m 141 #[.val (.int p1), .val (.int p2), .val (.int p3), .val (.int (8 : Int32)), .val (.int (0 : Int32)), .val (.int (1 : Int32)), .val (.int (1 : Int32)), .val (.int (0 : Int32)), .val (.int (0 : Int32)), .unset, .unset] [(.int (8 : Int32))])) _
        refine Goes.by (fun _ kz => XS.iconst X0.here hx rfl (hb hby at_141) (XS.icmpYes X0.here hx rfl (pc0 := 142) (pc' := 157) rfl (hb hby at_142) rfl (feq (by decide : ¬ ((8 : Int32) = (3 : Int32)))).2 (by decide) (by decide) (XS.iloadN X0.here hx rfl (hb hby at_157) rfl kz))) ?_
        show Goes p e below (s₁.setTop (mkF m 158 #[.val (.int p1), .val (.int p2), .val (.int p3), .val (.int (8 : Int32)), .val (.int (0 : Int32)), .val (.int (1 : Int32)), .val (.int (1 : Int32)), .val (.int (0 : Int32)), .val (.int (0 : Int32)), .unset, .unset] [(.int (8 : Int32))])) _
        refine Goes.by (fun _ kz => XS.iconst X0.here hx rfl (hb hby at_158) (XS.icmpYes X0.here hx rfl (pc0 := 159) (pc' := 187) rfl (hb hby at_159) rfl (feq (by decide : ¬ ((8 : Int32) = (4 : Int32)))).2 (by decide) (by decide) (XS.iloadN X0.here hx rfl (hb hby at_187) rfl kz))) ?_
        show Goes p e below (s₁.setTop (mkF m 188 #[.val (.int p1), .val (.int p2), .val (.int p3), .val (.int (8 : Int32)), .val (.int (0 : Int32)), .val (.int (1 : Int32)), .val (.int (1 : Int32)), .val (.int (0 : Int32)), .val (.int (0 : Int32)), .unset, .unset] [(.int (8 : Int32))])) _
        refine Goes.by (fun _ kz => XS.iconst X0.here hx rfl (hb hby at_188) (XS.icmpYes X0.here hx rfl (pc0 := 189) (pc' := 217) rfl (hb hby at_189) rfl (feq (by decide : ¬ ((8 : Int32) = (5 : Int32)))).2 (by decide) (by decide) (XS.iloadN X0.here hx rfl (hb hby at_217) rfl kz))) ?_
        show Goes p e below (s₁.setTop (mkF m 218 #[.val (.int p1), .val (.int p2), .val (.int p3), .val (.int (8 : Int32)), .val (.int (0 : Int32)), .val (.int (1 : Int32)), .val (.int (1 : Int32)), .val (.int (0 : Int32)), .val (.int (0 : Int32)), .unset, .unset] [(.int (8 : Int32))])) _
        refine Goes.by (fun _ kz => XS.bipush X0.here hx rfl (hb hby at_218) (XS.icmpYes X0.here hx rfl (pc0 := 220) (pc' := 235) rfl (hb hby at_220) rfl (feq (by decide : ¬ ((8 : Int32) = (6 : Int32)))).2 (by decide) (by decide) (XS.iloadN X0.here hx rfl (hb hby at_235) rfl kz))) ?_
        show Goes p e below (s₁.setTop (mkF m 236 #[.val (.int p1), .val (.int p2), .val (.int p3), .val (.int (8 : Int32)), .val (.int (0 : Int32)), .val (.int (1 : Int32)), .val (.int (1 : Int32)), .val (.int (0 : Int32)), .val (.int (0 : Int32)), .unset, .unset] [(.int (8 : Int32))])) _
        refine Goes.by (fun _ kz => XS.bipush X0.here hx rfl (hb hby at_236) (XS.icmpYes X0.here hx rfl (pc0 := 238) (pc' := 266) rfl (hb hby at_238) rfl (feq (by decide : ¬ ((8 : Int32) = (7 : Int32)))).2 (by decide) (by decide) kz)) ?_
        obtain ⟨T52, X52, e52, st52⟩ := getS2 X0 hx hZ hown (host := "") (Or.inl (hw _ (List.mem_of_getElem? (i := 17) rfl))) Via.refl e0 P.2.2.2.2.2.2.1 (g := (mkF m 266 #[.val (.int p1), .val (.int p2), .val (.int p3), .val (.int (8 : Int32)), .val (.int (0 : Int32)), .val (.int (1 : Int32)), .val (.int (1 : Int32)), .val (.int (0 : Int32)), .val (.int (0 : Int32)), .unset, .unset] [])) rfl (hb hby at_266)
        refine Goes.by st52 ?_
        refine Goes.by (fun _ kz => XS.astore X52.here hx rfl (hb hby at_269) rfl rfl (l' := #[.val (.int p1), .val (.int p2), .val (.int p3), .val (.int (8 : Int32)), .val (.int (0 : Int32)), .val (.int (1 : Int32)), .val (.int (1 : Int32)), .val (.int (0 : Int32)), .val (.int (0 : Int32)), .val (.ref (w 3)), .unset]) rfl (XS.iload X52.here hx rfl (hb hby at_271) rfl (XS.istore X52.here hx rfl (hb hby at_273) rfl (l' := #[.val (.int p1), .val (.int p2), .val (.int p3), .val (.int (8 : Int32)), .val (.int (0 : Int32)), .val (.int (1 : Int32)), .val (.int (1 : Int32)), .val (.int (0 : Int32)), .val (.int (0 : Int32)), .val (.ref (w 3)), .val (.int (1 : Int32))]) rfl kz))) ?_
        show Goes p e below (T52.setTop (mkF m 275 #[.val (.int p1), .val (.int p2), .val (.int p3), .val (.int (8 : Int32)), .val (.int (0 : Int32)), .val (.int (1 : Int32)), .val (.int (1 : Int32)), .val (.int (0 : Int32)), .val (.int (0 : Int32)), .val (.ref (w 3)), .val (.int (1 : Int32))] [])) _
        refine Goes.by (fun _ kz => XS.aload X52.here hx rfl (hb hby at_275) rfl rfl (XS.iload X52.here hx rfl (hb hby at_277) rfl (XS.iload X52.here hx rfl (hb hby at_279) rfl kz))) ?_
        obtain ⟨cq54, kq54, q54a, q54b, q54c⟩ := isOf hZ e52 P.2.2.2.2.2.2.2.1
        obtain ⟨_, _, ⟨T54, L54, k54, n54⟩, -, X54, ⟨Lc54, hQ54, l54, y54, z54⟩, st54⟩ := X52.virtualBack hx (y := (⟨"com/example/entail/entail/model/Scope", "reaches", "(IZ)Z"⟩ : MethodName)) (z := (⟨"com/example/entail/entail/model/Scope", "reaches", "(IZ)Z"⟩ : MethodName)) hown (mvT hZ (hw _ (List.mem_of_getElem? (i := 4) rfl))) (mvT hZ (hw _ (List.mem_of_getElem? (i := 5) rfl))) (notFace_of_selects (args := #[]) (mvT hZ (hw _ (List.mem_of_getElem? (i := 7) rfl)))) (mvT hZ (hw _ (List.mem_of_getElem? (i := 7) rfl))) (mvT hZ (hw _ (List.mem_of_getElem? (i := 6) rfl))) (by decide) (backOf (W := 0) (r1_17 l Z a0 hw [] h0 n0 Z0 w P) hZ (hw _ (List.mem_of_getElem? (i := 8) rfl)) (hw _ (List.mem_of_getElem? (i := 2) rfl)) (by decide) (by decide)) q54a q54c (g := (mkF m 281 #[.val (.int p1), .val (.int p2), .val (.int p3), .val (.int (8 : Int32)), .val (.int (0 : Int32)), .val (.int (1 : Int32)), .val (.int (1 : Int32)), .val (.int (0 : Int32)), .val (.int (0 : Int32)), .val (.ref (w 3)), .val (.int (1 : Int32))] [(.int (1 : Int32)), (.int (0 : Int32)), (.ref (w 3))])) rfl (by rw [hml]; rfl) (Steps.refl _) (argsL := [(.int (0 : Int32)), (.int (1 : Int32))]) (rest := []) (lenOf pd0 rfl) rfl (by show 2 * 0 + _ ≤ _; exact Nat.le_of_eq rfl) (hb hby at_281) (fun _ _ => ⟨rfl, e52, (by decide : 0 + 0 ≤ _), (by decide : 0 + 0 ≤ _)⟩)
        dsimp only [Pt.U, Pt.locs, Pt.cells, Pt.slots] at X54 l54 y54 z54 st54 hQ54
        subst l54 y54 z54
        obtain ⟨rfl, Nq54, e54⟩ := hQ54
        have N54 := Fr.app N0 Nq54
        refine Goes.tr st54 ?_
        refine Goes.by (fun _ kz => XS.iload X54.here hx rfl (hb hby at_284) rfl (XS.icmpNo X54.here hx rfl (hb hby at_286) rfl (teq (by decide : (1 : Int32) = (1 : Int32))).2 (XS.iconst X54.here hx rfl (hb hby at_289) kz))) ?_
        show Goes p e below (T54.setTop (mkF m 290 #[.val (.int p1), .val (.int p2), .val (.int p3), .val (.int (8 : Int32)), .val (.int (0 : Int32)), .val (.int (1 : Int32)), .val (.int (1 : Int32)), .val (.int (0 : Int32)), .val (.int (0 : Int32)), .val (.ref (w 3)), .val (.int (1 : Int32))] [(.int (1 : Int32))])) _
        refine Goes.by (fun _ kz => XS.goto X54.here hx rfl (pc0 := 290) (pc' := 294) rfl (hb hby at_290) (by decide) (by decide) kz) ?_
        show Goes p e below (T54.setTop (mkF m 294 #[.val (.int p1), .val (.int p2), .val (.int p3), .val (.int (8 : Int32)), .val (.int (0 : Int32)), .val (.int (1 : Int32)), .val (.int (1 : Int32)), .val (.int (0 : Int32)), .val (.int (0 : Int32)), .val (.ref (w 3)), .val (.int (1 : Int32))] [(.int (1 : Int32))])) _
        obtain ⟨fs, hr, hrun, hended, hW, hsame⟩ := X54.leave (v := some (.int (1 : Int32))) (fun h => by rw [Bd.returns] at h; cases h)
        exact ⟨_, _, retN X54 hx (t := .boolean) Bd.returns (by simp) (hb hby at_294) hr, hrun, hended, _, _, rfl, ⟨rfl, N54⟩, ⟨_, rfl⟩, hW, hsame.mono (by decide) (by decide)⟩
  · show Goes p e below (s₁.setTop (mkF m 14 #[.val (.int p1), .val (.int p2), .val (.int p3), .val (.int ((p1 &&& (2147483647 : Int32)) % (9 : Int32))), .val (.int (1 : Int32)), .unset, .unset, .unset, .unset, .unset, .unset] [])) _
    refine Goes.by (fun _ kz => XS.iloadN X0.here hx rfl (hb hby at_14) rfl (XS.iconst X0.here hx rfl (hb hby at_15) (XS.iand X0.here hx rfl (hb hby at_16) rfl kz))) ?_
    show Goes p e below (s₁.setTop (mkF m 17 #[.val (.int p1), .val (.int p2), .val (.int p3), .val (.int ((p1 &&& (2147483647 : Int32)) % (9 : Int32))), .val (.int (1 : Int32)), .unset, .unset, .unset, .unset, .unset, .unset] [(.int (p3 &&& (1 : Int32)))])) _
    rcases own_f p3 with hff | hff
    · rw [hff]
      show Goes p e below (s₁.setTop (mkF m 17 #[.val (.int p1), .val (.int p2), .val (.int p3), .val (.int ((p1 &&& (2147483647 : Int32)) % (9 : Int32))), .val (.int (1 : Int32)), .unset, .unset, .unset, .unset, .unset, .unset] [(.int (0 : Int32))])) _
      refine Goes.by (fun _ kz => XS.ifYes X0.here hx rfl (pc0 := 17) (pc' := 24) rfl (hb hby at_17) rfl ((if0 _ _).trans (teq (by decide : (0 : Int32) = (0 : Int32))).1) (by decide) (by decide) (XS.iconst X0.here hx rfl (hb hby at_24) (XS.istore X0.here hx rfl (hb hby at_25) rfl (l' := #[.val (.int p1), .val (.int p2), .val (.int p3), .val (.int ((p1 &&& (2147483647 : Int32)) % (9 : Int32))), .val (.int (1 : Int32)), .val (.int (0 : Int32)), .unset, .unset, .unset, .unset, .unset]) rfl kz))) ?_
      show Goes p e below (s₁.setTop (mkF m 27 #[.val (.int p1), .val (.int p2), .val (.int p3), .val (.int ((p1 &&& (2147483647 : Int32)) % (9 : Int32))), .val (.int (1 : Int32)), .val (.int (0 : Int32)), .unset, .unset, .unset, .unset, .unset] [])) _
      refine Goes.by (fun _ kz => XS.iload X0.here hx rfl (hb hby at_27) rfl (XS.ifYes X0.here hx rfl (pc0 := 29) (pc' := 36) rfl (hb hby at_29) rfl ((if0 _ _).trans (feq (by decide : ¬ ((1 : Int32) = (0 : Int32)))).2) (by decide) (by decide) (XS.iconst X0.here hx rfl (hb hby at_36) kz))) ?_
      show Goes p e below (s₁.setTop (mkF m 37 #[.val (.int p1), .val (.int p2), .val (.int p3), .val (.int ((p1 &&& (2147483647 : Int32)) % (9 : Int32))), .val (.int (1 : Int32)), .val (.int (0 : Int32)), .unset, .unset, .unset, .unset, .unset] [(.int (0 : Int32))])) _
      refine Goes.by (fun _ kz => XS.istore X0.here hx rfl (hb hby at_37) rfl (l' := #[.val (.int p1), .val (.int p2), .val (.int p3), .val (.int ((p1 &&& (2147483647 : Int32)) % (9 : Int32))), .val (.int (1 : Int32)), .val (.int (0 : Int32)), .val (.int (0 : Int32)), .unset, .unset, .unset, .unset]) rfl (XS.iload X0.here hx rfl (hb hby at_39) rfl (XS.iconst X0.here hx rfl (hb hby at_41) kz))) ?_
      show Goes p e below (s₁.setTop (mkF m 42 #[.val (.int p1), .val (.int p2), .val (.int p3), .val (.int ((p1 &&& (2147483647 : Int32)) % (9 : Int32))), .val (.int (1 : Int32)), .val (.int (0 : Int32)), .val (.int (0 : Int32)), .unset, .unset, .unset, .unset] [(.int (1 : Int32)), (.int (1 : Int32))])) _
      refine Goes.by (fun _ kz => XS.icmpNo X0.here hx rfl (hb hby at_42) rfl (teq (by decide : (1 : Int32) = (1 : Int32))).2 (XS.iconst X0.here hx rfl (hb hby at_45) (XS.goto X0.here hx rfl (pc0 := 46) (pc' := 50) rfl (hb hby at_46) (by decide) (by decide) kz))) ?_
      show Goes p e below (s₁.setTop (mkF m 50 #[.val (.int p1), .val (.int p2), .val (.int p3), .val (.int ((p1 &&& (2147483647 : Int32)) % (9 : Int32))), .val (.int (1 : Int32)), .val (.int (0 : Int32)), .val (.int (0 : Int32)), .unset, .unset, .unset, .unset] [(.int (1 : Int32))])) _
      refine Goes.by (fun _ kz => XS.istore X0.here hx rfl (hb hby at_50) rfl (l' := #[.val (.int p1), .val (.int p2), .val (.int p3), .val (.int ((p1 &&& (2147483647 : Int32)) % (9 : Int32))), .val (.int (1 : Int32)), .val (.int (0 : Int32)), .val (.int (0 : Int32)), .val (.int (1 : Int32)), .unset, .unset, .unset]) rfl (XS.iload X0.here hx rfl (hb hby at_52) rfl (XS.iconst X0.here hx rfl (hb hby at_54) kz))) ?_
      show Goes p e below (s₁.setTop (mkF m 55 #[.val (.int p1), .val (.int p2), .val (.int p3), .val (.int ((p1 &&& (2147483647 : Int32)) % (9 : Int32))), .val (.int (1 : Int32)), .val (.int (0 : Int32)), .val (.int (0 : Int32)), .val (.int (1 : Int32)), .unset, .unset, .unset] [(.int (1 : Int32)), (.int (1 : Int32))])) _
      refine Goes.by (fun _ kz => XS.icmpNo X0.here hx rfl (hb hby at_55) rfl (flt (by decide : ¬ ((1 : Int32) < (1 : Int32)))).1 (XS.iconst X0.here hx rfl (hb hby at_58) (XS.goto X0.here hx rfl (pc0 := 59) (pc' := 63) rfl (hb hby at_59) (by decide) (by decide) kz))) ?_
      show Goes p e below (s₁.setTop (mkF m 63 #[.val (.int p1), .val (.int p2), .val (.int p3), .val (.int ((p1 &&& (2147483647 : Int32)) % (9 : Int32))), .val (.int (1 : Int32)), .val (.int (0 : Int32)), .val (.int (0 : Int32)), .val (.int (1 : Int32)), .unset, .unset, .unset] [(.int (1 : Int32))])) _
      refine Goes.by (fun _ kz => XS.istore X0.here hx rfl (hb hby at_63) rfl (l' := #[.val (.int p1), .val (.int p2), .val (.int p3), .val (.int ((p1 &&& (2147483647 : Int32)) % (9 : Int32))), .val (.int (1 : Int32)), .val (.int (0 : Int32)), .val (.int (0 : Int32)), .val (.int (1 : Int32)), .val (.int (1 : Int32)), .unset, .unset]) rfl kz) ?_
      show Goes p e below (s₁.setTop (mkF m 65 #[.val (.int p1), .val (.int p2), .val (.int p3), .val (.int ((p1 &&& (2147483647 : Int32)) % (9 : Int32))), .val (.int (1 : Int32)), .val (.int (0 : Int32)), .val (.int (0 : Int32)), .val (.int (1 : Int32)), .val (.int (1 : Int32)), .unset, .unset] [])) _
      have hsi := own_split p1
      obtain ⟨i, hi⟩ : ∃ z, z = ((p1 &&& (2147483647 : Int32)) % (9 : Int32)) := ⟨_, rfl⟩
      rw [← hi] at hsi ⊢
      rcases hsi with rfl | rfl | rfl | rfl | rfl | rfl | rfl | rfl | rfl
      · show Goes p e below (s₁.setTop (mkF m 65 #[.val (.int p1), .val (.int p2), .val (.int p3), .val (.int (0 : Int32)), .val (.int (1 : Int32)), .val (.int (0 : Int32)), .val (.int (0 : Int32)), .val (.int (1 : Int32)), .val (.int (1 : Int32)), .unset, .unset] [])) _
        refine Goes.by (fun _ kz => XS.iloadN X0.here hx rfl (hb hby at_65) rfl (XS.ifNo X0.here hx rfl (hb hby at_66) rfl ((if0 _ _).trans (teq (by decide : (0 : Int32) = (0 : Int32))).2) kz)) ?_
        obtain ⟨T55, X55, e55, st55⟩ := getS2 X0 hx hZ hown (host := "") (Or.inl (hw _ (List.mem_of_getElem? (i := 1) rfl))) Via.refl e0 P.1 (g := (mkF m 69 #[.val (.int p1), .val (.int p2), .val (.int p3), .val (.int (0 : Int32)), .val (.int (1 : Int32)), .val (.int (0 : Int32)), .val (.int (0 : Int32)), .val (.int (1 : Int32)), .val (.int (1 : Int32)), .unset, .unset] [])) rfl (hb hby at_69)
        refine Goes.by st55 ?_
        refine Goes.by (fun _ kz => XS.astore X55.here hx rfl (hb hby at_72) rfl rfl (l' := #[.val (.int p1), .val (.int p2), .val (.int p3), .val (.int (0 : Int32)), .val (.int (1 : Int32)), .val (.int (0 : Int32)), .val (.int (0 : Int32)), .val (.int (1 : Int32)), .val (.int (1 : Int32)), .val (.ref (w 0)), .unset]) rfl (XS.iconst X55.here hx rfl (hb hby at_74) (XS.istore X55.here hx rfl (hb hby at_75) rfl (l' := #[.val (.int p1), .val (.int p2), .val (.int p3), .val (.int (0 : Int32)), .val (.int (1 : Int32)), .val (.int (0 : Int32)), .val (.int (0 : Int32)), .val (.int (1 : Int32)), .val (.int (1 : Int32)), .val (.ref (w 0)), .val (.int (1 : Int32))]) rfl kz))) ?_
        show Goes p e below (T55.setTop (mkF m 77 #[.val (.int p1), .val (.int p2), .val (.int p3), .val (.int (0 : Int32)), .val (.int (1 : Int32)), .val (.int (0 : Int32)), .val (.int (0 : Int32)), .val (.int (1 : Int32)), .val (.int (1 : Int32)), .val (.ref (w 0)), .val (.int (1 : Int32))] [])) _
        refine Goes.by (fun _ kz => XS.goto X55.here hx rfl (pc0 := 77) (pc' := 275) rfl (hb hby at_77) (by decide) (by decide) (XS.aload X55.here hx rfl (hb hby at_275) rfl rfl (XS.iload X55.here hx rfl (hb hby at_277) rfl kz))) ?_
        show Goes p e below (T55.setTop (mkF m 279 #[.val (.int p1), .val (.int p2), .val (.int p3), .val (.int (0 : Int32)), .val (.int (1 : Int32)), .val (.int (0 : Int32)), .val (.int (0 : Int32)), .val (.int (1 : Int32)), .val (.int (1 : Int32)), .val (.ref (w 0)), .val (.int (1 : Int32))] [(.int (1 : Int32)), (.ref (w 0))])) _
        refine Goes.by (fun _ kz => XS.iload X55.here hx rfl (hb hby at_279) rfl kz) ?_
        obtain ⟨cq57, kq57, q57a, q57b, q57c⟩ := isOf hZ e55 P.2.1
        obtain ⟨_, _, ⟨T57, L57, k57, n57⟩, -, X57, ⟨Lc57, hQ57, l57, y57, z57⟩, st57⟩ := X55.virtualBack hx (y := (⟨"com/example/entail/entail/model/Scope", "reaches", "(IZ)Z"⟩ : MethodName)) (z := (⟨"com/example/entail/entail/model/Scope", "reaches", "(IZ)Z"⟩ : MethodName)) hown (mvT hZ (hw _ (List.mem_of_getElem? (i := 4) rfl))) (mvT hZ (hw _ (List.mem_of_getElem? (i := 5) rfl))) (notFace_of_selects (args := #[]) (mvT hZ (hw _ (List.mem_of_getElem? (i := 7) rfl)))) (mvT hZ (hw _ (List.mem_of_getElem? (i := 7) rfl))) (mvT hZ (hw _ (List.mem_of_getElem? (i := 6) rfl))) (by decide) (backOf (W := 0) (r1_18 l Z a0 hw [] h0 n0 Z0 w P) hZ (hw _ (List.mem_of_getElem? (i := 8) rfl)) (hw _ (List.mem_of_getElem? (i := 2) rfl)) (by decide) (by decide)) q57a q57c (g := (mkF m 281 #[.val (.int p1), .val (.int p2), .val (.int p3), .val (.int (0 : Int32)), .val (.int (1 : Int32)), .val (.int (0 : Int32)), .val (.int (0 : Int32)), .val (.int (1 : Int32)), .val (.int (1 : Int32)), .val (.ref (w 0)), .val (.int (1 : Int32))] [(.int (0 : Int32)), (.int (1 : Int32)), (.ref (w 0))])) rfl (by rw [hml]; rfl) (Steps.refl _) (argsL := [(.int (1 : Int32)), (.int (0 : Int32))]) (rest := []) (lenOf pd0 rfl) rfl (by show 2 * 0 + _ ≤ _; exact Nat.le_of_eq rfl) (hb hby at_281) (fun _ _ => ⟨rfl, e55, (by decide : 0 + 0 ≤ _), (by decide : 0 + 0 ≤ _)⟩)
        dsimp only [Pt.U, Pt.locs, Pt.cells, Pt.slots] at X57 l57 y57 z57 st57 hQ57
        subst l57 y57 z57
        obtain ⟨rfl, Nq57, e57⟩ := hQ57
        have N57 := Fr.app N0 Nq57
        refine Goes.tr st57 ?_
        refine Goes.by (fun _ kz => XS.iload X57.here hx rfl (hb hby at_284) rfl (XS.icmpNo X57.here hx rfl (hb hby at_286) rfl (teq (by decide : (1 : Int32) = (1 : Int32))).2 (XS.iconst X57.here hx rfl (hb hby at_289) kz))) ?_
        show Goes p e below (T57.setTop (mkF m 290 #[.val (.int p1), .val (.int p2), .val (.int p3), .val (.int (0 : Int32)), .val (.int (1 : Int32)), .val (.int (0 : Int32)), .val (.int (0 : Int32)), .val (.int (1 : Int32)), .val (.int (1 : Int32)), .val (.ref (w 0)), .val (.int (1 : Int32))] [(.int (1 : Int32))])) _
        refine Goes.by (fun _ kz => XS.goto X57.here hx rfl (pc0 := 290) (pc' := 294) rfl (hb hby at_290) (by decide) (by decide) kz) ?_
        show Goes p e below (T57.setTop (mkF m 294 #[.val (.int p1), .val (.int p2), .val (.int p3), .val (.int (0 : Int32)), .val (.int (1 : Int32)), .val (.int (0 : Int32)), .val (.int (0 : Int32)), .val (.int (1 : Int32)), .val (.int (1 : Int32)), .val (.ref (w 0)), .val (.int (1 : Int32))] [(.int (1 : Int32))])) _
        obtain ⟨fs, hr, hrun, hended, hW, hsame⟩ := X57.leave (v := some (.int (1 : Int32))) (fun h => by rw [Bd.returns] at h; cases h)
        exact ⟨_, _, retN X57 hx (t := .boolean) Bd.returns (by simp) (hb hby at_294) hr, hrun, hended, _, _, rfl, ⟨rfl, N57⟩, ⟨_, rfl⟩, hW, hsame.mono (by decide) (by decide)⟩
      · show Goes p e below (s₁.setTop (mkF m 65 #[.val (.int p1), .val (.int p2), .val (.int p3), .val (.int (1 : Int32)), .val (.int (1 : Int32)), .val (.int (0 : Int32)), .val (.int (0 : Int32)), .val (.int (1 : Int32)), .val (.int (1 : Int32)), .unset, .unset] [])) _
        refine Goes.by (fun _ kz => XS.iloadN X0.here hx rfl (hb hby at_65) rfl (XS.ifYes X0.here hx rfl (pc0 := 66) (pc' := 80) rfl (hb hby at_66) rfl ((if0 _ _).trans (feq (by decide : ¬ ((1 : Int32) = (0 : Int32)))).2) (by decide) (by decide) (XS.iloadN X0.here hx rfl (hb hby at_80) rfl kz))) ?_
        show Goes p e below (s₁.setTop (mkF m 81 #[.val (.int p1), .val (.int p2), .val (.int p3), .val (.int (1 : Int32)), .val (.int (1 : Int32)), .val (.int (0 : Int32)), .val (.int (0 : Int32)), .val (.int (1 : Int32)), .val (.int (1 : Int32)), .unset, .unset] [(.int (1 : Int32))])) _
        refine Goes.by (fun _ kz => XS.iconst X0.here hx rfl (hb hby at_81) (XS.icmpNo X0.here hx rfl (hb hby at_82) rfl (teq (by decide : (1 : Int32) = (1 : Int32))).2 kz)) ?_
        obtain ⟨T58, X58, e58, st58⟩ := getS2 X0 hx hZ hown (host := "") (Or.inl (hw _ (List.mem_of_getElem? (i := 11) rfl))) Via.refl e0 P.2.2.1 (g := (mkF m 85 #[.val (.int p1), .val (.int p2), .val (.int p3), .val (.int (1 : Int32)), .val (.int (1 : Int32)), .val (.int (0 : Int32)), .val (.int (0 : Int32)), .val (.int (1 : Int32)), .val (.int (1 : Int32)), .unset, .unset] [])) rfl (hb hby at_85)
        refine Goes.by st58 ?_
        refine Goes.by (fun _ kz => XS.astore X58.here hx rfl (hb hby at_88) rfl rfl (l' := #[.val (.int p1), .val (.int p2), .val (.int p3), .val (.int (1 : Int32)), .val (.int (1 : Int32)), .val (.int (0 : Int32)), .val (.int (0 : Int32)), .val (.int (1 : Int32)), .val (.int (1 : Int32)), .val (.ref (w 1)), .unset]) rfl (XS.iload X58.here hx rfl (hb hby at_90) rfl (XS.ifNo X58.here hx rfl (hb hby at_92) rfl ((if0 _ _).trans (teq (by decide : (0 : Int32) = (0 : Int32))).2) kz))) ?_
        show Goes p e below (T58.setTop (mkF m 95 #[.val (.int p1), .val (.int p2), .val (.int p3), .val (.int (1 : Int32)), .val (.int (1 : Int32)), .val (.int (0 : Int32)), .val (.int (0 : Int32)), .val (.int (1 : Int32)), .val (.int (1 : Int32)), .val (.ref (w 1)), .unset] [])) _
        refine Goes.by (fun _ kz => XS.iload X58.here hx rfl (hb hby at_95) rfl (XS.ifYes X58.here hx rfl (pc0 := 97) (pc' := 104) rfl (hb hby at_97) rfl ((if0 _ _).trans (teq (by decide : (0 : Int32) = (0 : Int32))).1) (by decide) (by decide) (XS.iconst X58.here hx rfl (hb hby at_104) kz))) ?_
        show Goes p e below (T58.setTop (mkF m 105 #[.val (.int p1), .val (.int p2), .val (.int p3), .val (.int (1 : Int32)), .val (.int (1 : Int32)), .val (.int (0 : Int32)), .val (.int (0 : Int32)), .val (.int (1 : Int32)), .val (.int (1 : Int32)), .val (.ref (w 1)), .unset] [(.int (0 : Int32))])) _
        refine Goes.by (fun _ kz => XS.istore X58.here hx rfl (hb hby at_105) rfl (l' := #[.val (.int p1), .val (.int p2), .val (.int p3), .val (.int (1 : Int32)), .val (.int (1 : Int32)), .val (.int (0 : Int32)), .val (.int (0 : Int32)), .val (.int (1 : Int32)), .val (.int (1 : Int32)), .val (.ref (w 1)), .val (.int (0 : Int32))]) rfl (XS.goto X58.here hx rfl (pc0 := 107) (pc' := 275) rfl (hb hby at_107) (by decide) (by decide) (XS.aload X58.here hx rfl (hb hby at_275) rfl rfl kz))) ?_
        show Goes p e below (T58.setTop (mkF m 277 #[.val (.int p1), .val (.int p2), .val (.int p3), .val (.int (1 : Int32)), .val (.int (1 : Int32)), .val (.int (0 : Int32)), .val (.int (0 : Int32)), .val (.int (1 : Int32)), .val (.int (1 : Int32)), .val (.ref (w 1)), .val (.int (0 : Int32))] [(.ref (w 1))])) _
        refine Goes.by (fun _ kz => XS.iload X58.here hx rfl (hb hby at_277) rfl (XS.iload X58.here hx rfl (hb hby at_279) rfl kz)) ?_
        obtain ⟨cq60, kq60, q60a, q60b, q60c⟩ := isOf hZ e58 P.2.2.2.1
        obtain ⟨_, _, ⟨T60, L60, k60, n60⟩, -, X60, ⟨Lc60, hQ60, l60, y60, z60⟩, st60⟩ := X58.virtualBack hx (y := (⟨"com/example/entail/entail/model/Scope", "reaches", "(IZ)Z"⟩ : MethodName)) (z := (⟨"com/example/entail/entail/model/Scope", "reaches", "(IZ)Z"⟩ : MethodName)) hown (mvT hZ (hw _ (List.mem_of_getElem? (i := 4) rfl))) (mvT hZ (hw _ (List.mem_of_getElem? (i := 5) rfl))) (notFace_of_selects (args := #[]) (mvT hZ (hw _ (List.mem_of_getElem? (i := 7) rfl)))) (mvT hZ (hw _ (List.mem_of_getElem? (i := 7) rfl))) (mvT hZ (hw _ (List.mem_of_getElem? (i := 6) rfl))) (by decide) (backOf (W := 0) (r1_19 l Z a0 hw [] h0 n0 Z0 w P) hZ (hw _ (List.mem_of_getElem? (i := 8) rfl)) (hw _ (List.mem_of_getElem? (i := 2) rfl)) (by decide) (by decide)) q60a q60c (g := (mkF m 281 #[.val (.int p1), .val (.int p2), .val (.int p3), .val (.int (1 : Int32)), .val (.int (1 : Int32)), .val (.int (0 : Int32)), .val (.int (0 : Int32)), .val (.int (1 : Int32)), .val (.int (1 : Int32)), .val (.ref (w 1)), .val (.int (0 : Int32))] [(.int (0 : Int32)), (.int (1 : Int32)), (.ref (w 1))])) rfl (by rw [hml]; rfl) (Steps.refl _) (argsL := [(.int (1 : Int32)), (.int (0 : Int32))]) (rest := []) (lenOf pd0 rfl) rfl (by show 2 * 0 + _ ≤ _; exact Nat.le_of_eq rfl) (hb hby at_281) (fun _ _ => ⟨rfl, e58, (by decide : 0 + 0 ≤ _), (by decide : 0 + 0 ≤ _)⟩)
        dsimp only [Pt.U, Pt.locs, Pt.cells, Pt.slots] at X60 l60 y60 z60 st60 hQ60
        subst l60 y60 z60
        obtain ⟨rfl, Nq60, e60⟩ := hQ60
        have N60 := Fr.app N0 Nq60
        refine Goes.tr st60 ?_
        refine Goes.by (fun _ kz => XS.iload X60.here hx rfl (hb hby at_284) rfl (XS.icmpNo X60.here hx rfl (hb hby at_286) rfl (teq (by decide : (0 : Int32) = (0 : Int32))).2 (XS.iconst X60.here hx rfl (hb hby at_289) kz))) ?_
        show Goes p e below (T60.setTop (mkF m 290 #[.val (.int p1), .val (.int p2), .val (.int p3), .val (.int (1 : Int32)), .val (.int (1 : Int32)), .val (.int (0 : Int32)), .val (.int (0 : Int32)), .val (.int (1 : Int32)), .val (.int (1 : Int32)), .val (.ref (w 1)), .val (.int (0 : Int32))] [(.int (1 : Int32))])) _
        refine Goes.by (fun _ kz => XS.goto X60.here hx rfl (pc0 := 290) (pc' := 294) rfl (hb hby at_290) (by decide) (by decide) kz) ?_
        show Goes p e below (T60.setTop (mkF m 294 #[.val (.int p1), .val (.int p2), .val (.int p3), .val (.int (1 : Int32)), .val (.int (1 : Int32)), .val (.int (0 : Int32)), .val (.int (0 : Int32)), .val (.int (1 : Int32)), .val (.int (1 : Int32)), .val (.ref (w 1)), .val (.int (0 : Int32))] [(.int (1 : Int32))])) _
        obtain ⟨fs, hr, hrun, hended, hW, hsame⟩ := X60.leave (v := some (.int (1 : Int32))) (fun h => by rw [Bd.returns] at h; cases h)
        exact ⟨_, _, retN X60 hx (t := .boolean) Bd.returns (by simp) (hb hby at_294) hr, hrun, hended, _, _, rfl, ⟨rfl, N60⟩, ⟨_, rfl⟩, hW, hsame.mono (by decide) (by decide)⟩
      · show Goes p e below (s₁.setTop (mkF m 65 #[.val (.int p1), .val (.int p2), .val (.int p3), .val (.int (2 : Int32)), .val (.int (1 : Int32)), .val (.int (0 : Int32)), .val (.int (0 : Int32)), .val (.int (1 : Int32)), .val (.int (1 : Int32)), .unset, .unset] [])) _
        refine Goes.by (fun _ kz => XS.iloadN X0.here hx rfl (hb hby at_65) rfl (XS.ifYes X0.here hx rfl (pc0 := 66) (pc' := 80) rfl (hb hby at_66) rfl ((if0 _ _).trans (feq (by decide : ¬ ((2 : Int32) = (0 : Int32)))).2) (by decide) (by decide) (XS.iloadN X0.here hx rfl (hb hby at_80) rfl kz))) ?_
        show Goes p e below (s₁.setTop (mkF m 81 #[.val (.int p1), .val (.int p2), .val (.int p3), .val (.int (2 : Int32)), .val (.int (1 : Int32)), .val (.int (0 : Int32)), .val (.int (0 : Int32)), .val (.int (1 : Int32)), .val (.int (1 : Int32)), .unset, .unset] [(.int (2 : Int32))])) _
        refine Goes.by (fun _ kz => XS.iconst X0.here hx rfl (hb hby at_81) (XS.icmpYes X0.here hx rfl (pc0 := 82) (pc' := 110) rfl (hb hby at_82) rfl (feq (by decide : ¬ ((2 : Int32) = (1 : Int32)))).2 (by decide) (by decide) (XS.iloadN X0.here hx rfl (hb hby at_110) rfl kz))) ?_
        show Goes p e below (s₁.setTop (mkF m 111 #[.val (.int p1), .val (.int p2), .val (.int p3), .val (.int (2 : Int32)), .val (.int (1 : Int32)), .val (.int (0 : Int32)), .val (.int (0 : Int32)), .val (.int (1 : Int32)), .val (.int (1 : Int32)), .unset, .unset] [(.int (2 : Int32))])) _
        refine Goes.by (fun _ kz => XS.iconst X0.here hx rfl (hb hby at_111) (XS.icmpNo X0.here hx rfl (hb hby at_112) rfl (teq (by decide : (2 : Int32) = (2 : Int32))).2 kz)) ?_
        obtain ⟨T61, X61, e61, st61⟩ := getS2 X0 hx hZ hown (host := "") (Or.inl (hw _ (List.mem_of_getElem? (i := 15) rfl))) Via.refl e0 P.2.2.2.2.1 (g := (mkF m 115 #[.val (.int p1), .val (.int p2), .val (.int p3), .val (.int (2 : Int32)), .val (.int (1 : Int32)), .val (.int (0 : Int32)), .val (.int (0 : Int32)), .val (.int (1 : Int32)), .val (.int (1 : Int32)), .unset, .unset] [])) rfl (hb hby at_115)
        refine Goes.by st61 ?_
        refine Goes.by (fun _ kz => XS.astore X61.here hx rfl (hb hby at_118) rfl rfl (l' := #[.val (.int p1), .val (.int p2), .val (.int p3), .val (.int (2 : Int32)), .val (.int (1 : Int32)), .val (.int (0 : Int32)), .val (.int (0 : Int32)), .val (.int (1 : Int32)), .val (.int (1 : Int32)), .val (.ref (w 2)), .unset]) rfl (XS.iload X61.here hx rfl (hb hby at_120) rfl (XS.ifNo X61.here hx rfl (hb hby at_122) rfl ((if0 _ _).trans (teq (by decide : (0 : Int32) = (0 : Int32))).2) kz))) ?_
        show Goes p e below (T61.setTop (mkF m 125 #[.val (.int p1), .val (.int p2), .val (.int p3), .val (.int (2 : Int32)), .val (.int (1 : Int32)), .val (.int (0 : Int32)), .val (.int (0 : Int32)), .val (.int (1 : Int32)), .val (.int (1 : Int32)), .val (.ref (w 2)), .unset] [])) _
        refine Goes.by (fun _ kz => XS.iload X61.here hx rfl (hb hby at_125) rfl (XS.ifNo X61.here hx rfl (hb hby at_127) rfl ((if0 _ _).trans (feq (by decide : ¬ ((1 : Int32) = (0 : Int32)))).1) (XS.iconst X61.here hx rfl (hb hby at_130) kz))) ?_
        show Goes p e below (T61.setTop (mkF m 131 #[.val (.int p1), .val (.int p2), .val (.int p3), .val (.int (2 : Int32)), .val (.int (1 : Int32)), .val (.int (0 : Int32)), .val (.int (0 : Int32)), .val (.int (1 : Int32)), .val (.int (1 : Int32)), .val (.ref (w 2)), .unset] [(.int (1 : Int32))])) _
        refine Goes.by (fun _ kz => XS.goto X61.here hx rfl (pc0 := 131) (pc' := 135) rfl (hb hby at_131) (by decide) (by decide) (XS.istore X61.here hx rfl (hb hby at_135) rfl (l' := #[.val (.int p1), .val (.int p2), .val (.int p3), .val (.int (2 : Int32)), .val (.int (1 : Int32)), .val (.int (0 : Int32)), .val (.int (0 : Int32)), .val (.int (1 : Int32)), .val (.int (1 : Int32)), .val (.ref (w 2)), .val (.int (1 : Int32))]) rfl (XS.goto X61.here hx rfl (pc0 := 137) (pc' := 275) rfl (hb hby at_137) (by decide) (by decide) kz))) ?_
        show Goes p e below (T61.setTop (mkF m 275 #[.val (.int p1), .val (.int p2), .val (.int p3), .val (.int (2 : Int32)), .val (.int (1 : Int32)), .val (.int (0 : Int32)), .val (.int (0 : Int32)), .val (.int (1 : Int32)), .val (.int (1 : Int32)), .val (.ref (w 2)), .val (.int (1 : Int32))] [])) _
        refine Goes.by (fun _ kz => XS.aload X61.here hx rfl (hb hby at_275) rfl rfl (XS.iload X61.here hx rfl (hb hby at_277) rfl (XS.iload X61.here hx rfl (hb hby at_279) rfl kz))) ?_
        obtain ⟨cq63, kq63, q63a, q63b, q63c⟩ := isOf hZ e61 P.2.2.2.2.2.1
        obtain ⟨_, _, ⟨T63, L63, k63, n63⟩, -, X63, ⟨Lc63, hQ63, l63, y63, z63⟩, st63⟩ := X61.virtualBack hx (y := (⟨"com/example/entail/entail/model/Scope", "reaches", "(IZ)Z"⟩ : MethodName)) (z := (⟨"com/example/entail/entail/model/Scope", "reaches", "(IZ)Z"⟩ : MethodName)) hown (mvT hZ (hw _ (List.mem_of_getElem? (i := 4) rfl))) (mvT hZ (hw _ (List.mem_of_getElem? (i := 5) rfl))) (notFace_of_selects (args := #[]) (mvT hZ (hw _ (List.mem_of_getElem? (i := 7) rfl)))) (mvT hZ (hw _ (List.mem_of_getElem? (i := 7) rfl))) (mvT hZ (hw _ (List.mem_of_getElem? (i := 6) rfl))) (by decide) (backOf (W := 0) (r1_20 l Z a0 hw [] h0 n0 Z0 w P) hZ (hw _ (List.mem_of_getElem? (i := 8) rfl)) (hw _ (List.mem_of_getElem? (i := 2) rfl)) (by decide) (by decide)) q63a q63c (g := (mkF m 281 #[.val (.int p1), .val (.int p2), .val (.int p3), .val (.int (2 : Int32)), .val (.int (1 : Int32)), .val (.int (0 : Int32)), .val (.int (0 : Int32)), .val (.int (1 : Int32)), .val (.int (1 : Int32)), .val (.ref (w 2)), .val (.int (1 : Int32))] [(.int (0 : Int32)), (.int (1 : Int32)), (.ref (w 2))])) rfl (by rw [hml]; rfl) (Steps.refl _) (argsL := [(.int (1 : Int32)), (.int (0 : Int32))]) (rest := []) (lenOf pd0 rfl) rfl (by show 2 * 0 + _ ≤ _; exact Nat.le_of_eq rfl) (hb hby at_281) (fun _ _ => ⟨rfl, e61, (by decide : 0 + 0 ≤ _), (by decide : 0 + 0 ≤ _)⟩)
        dsimp only [Pt.U, Pt.locs, Pt.cells, Pt.slots] at X63 l63 y63 z63 st63 hQ63
        subst l63 y63 z63
        obtain ⟨rfl, Nq63, e63⟩ := hQ63
        have N63 := Fr.app N0 Nq63
        refine Goes.tr st63 ?_
        refine Goes.by (fun _ kz => XS.iload X63.here hx rfl (hb hby at_284) rfl (XS.icmpNo X63.here hx rfl (hb hby at_286) rfl (teq (by decide : (1 : Int32) = (1 : Int32))).2 (XS.iconst X63.here hx rfl (hb hby at_289) kz))) ?_
        show Goes p e below (T63.setTop (mkF m 290 #[.val (.int p1), .val (.int p2), .val (.int p3), .val (.int (2 : Int32)), .val (.int (1 : Int32)), .val (.int (0 : Int32)), .val (.int (0 : Int32)), .val (.int (1 : Int32)), .val (.int (1 : Int32)), .val (.ref (w 2)), .val (.int (1 : Int32))] [(.int (1 : Int32))])) _
        refine Goes.by (fun _ kz => XS.goto X63.here hx rfl (pc0 := 290) (pc' := 294) rfl (hb hby at_290) (by decide) (by decide) kz) ?_
        show Goes p e below (T63.setTop (mkF m 294 #[.val (.int p1), .val (.int p2), .val (.int p3), .val (.int (2 : Int32)), .val (.int (1 : Int32)), .val (.int (0 : Int32)), .val (.int (0 : Int32)), .val (.int (1 : Int32)), .val (.int (1 : Int32)), .val (.ref (w 2)), .val (.int (1 : Int32))] [(.int (1 : Int32))])) _
        obtain ⟨fs, hr, hrun, hended, hW, hsame⟩ := X63.leave (v := some (.int (1 : Int32))) (fun h => by rw [Bd.returns] at h; cases h)
        exact ⟨_, _, retN X63 hx (t := .boolean) Bd.returns (by simp) (hb hby at_294) hr, hrun, hended, _, _, rfl, ⟨rfl, N63⟩, ⟨_, rfl⟩, hW, hsame.mono (by decide) (by decide)⟩
      · show Goes p e below (s₁.setTop (mkF m 65 #[.val (.int p1), .val (.int p2), .val (.int p3), .val (.int (3 : Int32)), .val (.int (1 : Int32)), .val (.int (0 : Int32)), .val (.int (0 : Int32)), .val (.int (1 : Int32)), .val (.int (1 : Int32)), .unset, .unset] [])) _
        refine Goes.by (fun _ kz => XS.iloadN X0.here hx rfl (hb hby at_65) rfl (XS.ifYes X0.here hx rfl (pc0 := 66) (pc' := 80) rfl (hb hby at_66) rfl ((if0 _ _).trans (feq (by decide : ¬ ((3 : Int32) = (0 : Int32)))).2) (by decide) (by decide) (XS.iloadN X0.here hx rfl (hb hby at_80) rfl kz))) ?_
        show Goes p e below (s₁.setTop (mkF m 81 #[.val (.int p1), .val (.int p2), .val (.int p3), .val (.int (3 : Int32)), .val (.int (1 : Int32)), .val (.int (0 : Int32)), .val (.int (0 : Int32)), .val (.int (1 : Int32)), .val (.int (1 : Int32)), .unset, .unset] [(.int (3 : Int32))])) _
        refine Goes.by (fun _ kz => XS.iconst X0.here hx rfl (hb hby at_81) (XS.icmpYes X0.here hx rfl (pc0 := 82) (pc' := 110) rfl (hb hby at_82) rfl (feq (by decide : ¬ ((3 : Int32) = (1 : Int32)))).2 (by decide) (by decide) (XS.iloadN X0.here hx rfl (hb hby at_110) rfl kz))) ?_
        show Goes p e below (s₁.setTop (mkF m 111 #[.val (.int p1), .val (.int p2), .val (.int p3), .val (.int (3 : Int32)), .val (.int (1 : Int32)), .val (.int (0 : Int32)), .val (.int (0 : Int32)), .val (.int (1 : Int32)), .val (.int (1 : Int32)), .unset, .unset] [(.int (3 : Int32))])) _
        refine Goes.by (fun _ kz => XS.iconst X0.here hx rfl (hb hby at_111) (XS.icmpYes X0.here hx rfl (pc0 := 112) (pc' := 140) rfl (hb hby at_112) rfl (feq (by decide : ¬ ((3 : Int32) = (2 : Int32)))).2 (by decide) (by decide) (XS.iloadN X0.here hx rfl (hb hby at_140) rfl kz))) ?_
        show Goes p e below (s₁.setTop (mkF m 141 #[.val (.int p1), .val (.int p2), .val (.int p3), .val (.int (3 : Int32)), .val (.int (1 : Int32)), .val (.int (0 : Int32)), .val (.int (0 : Int32)), .val (.int (1 : Int32)), .val (.int (1 : Int32)), .unset, .unset] [(.int (3 : Int32))])) _
        refine Goes.by (fun _ kz => XS.iconst X0.here hx rfl (hb hby at_141) (XS.icmpNo X0.here hx rfl (hb hby at_142) rfl (teq (by decide : (3 : Int32) = (3 : Int32))).2 kz)) ?_
        obtain ⟨T64, X64, e64, st64⟩ := getS2 X0 hx hZ hown (host := "") (Or.inl (hw _ (List.mem_of_getElem? (i := 25) rfl))) Via.refl e0 P.2.2.2.2.2.2.2.2.2.2.2.2.1 (g := (mkF m 145 #[.val (.int p1), .val (.int p2), .val (.int p3), .val (.int (3 : Int32)), .val (.int (1 : Int32)), .val (.int (0 : Int32)), .val (.int (0 : Int32)), .val (.int (1 : Int32)), .val (.int (1 : Int32)), .unset, .unset] [])) rfl (hb hby at_145)
        refine Goes.by st64 ?_
        refine Goes.by (fun _ kz => XS.astore X64.here hx rfl (hb hby at_148) rfl rfl (l' := #[.val (.int p1), .val (.int p2), .val (.int p3), .val (.int (3 : Int32)), .val (.int (1 : Int32)), .val (.int (0 : Int32)), .val (.int (0 : Int32)), .val (.int (1 : Int32)), .val (.int (1 : Int32)), .val (.ref (w 6)), .unset]) rfl (XS.iload X64.here hx rfl (hb hby at_150) rfl (XS.istore X64.here hx rfl (hb hby at_152) rfl (l' := #[.val (.int p1), .val (.int p2), .val (.int p3), .val (.int (3 : Int32)), .val (.int (1 : Int32)), .val (.int (0 : Int32)), .val (.int (0 : Int32)), .val (.int (1 : Int32)), .val (.int (1 : Int32)), .val (.ref (w 6)), .val (.int (1 : Int32))]) rfl kz))) ?_
        show Goes p e below (T64.setTop (mkF m 154 #[.val (.int p1), .val (.int p2), .val (.int p3), .val (.int (3 : Int32)), .val (.int (1 : Int32)), .val (.int (0 : Int32)), .val (.int (0 : Int32)), .val (.int (1 : Int32)), .val (.int (1 : Int32)), .val (.ref (w 6)), .val (.int (1 : Int32))] [])) _
        refine Goes.by (fun _ kz => XS.goto X64.here hx rfl (pc0 := 154) (pc' := 275) rfl (hb hby at_154) (by decide) (by decide) (XS.aload X64.here hx rfl (hb hby at_275) rfl rfl (XS.iload X64.here hx rfl (hb hby at_277) rfl kz))) ?_
        show Goes p e below (T64.setTop (mkF m 279 #[.val (.int p1), .val (.int p2), .val (.int p3), .val (.int (3 : Int32)), .val (.int (1 : Int32)), .val (.int (0 : Int32)), .val (.int (0 : Int32)), .val (.int (1 : Int32)), .val (.int (1 : Int32)), .val (.ref (w 6)), .val (.int (1 : Int32))] [(.int (1 : Int32)), (.ref (w 6))])) _
        refine Goes.by (fun _ kz => XS.iload X64.here hx rfl (hb hby at_279) rfl kz) ?_
        obtain ⟨cq66, kq66, q66a, q66b, q66c⟩ := isOf hZ e64 P.2.2.2.2.2.2.2.2.2.2.2.2.2.1
        obtain ⟨_, _, ⟨T66, L66, k66, n66⟩, -, X66, ⟨Lc66, hQ66, l66, y66, z66⟩, st66⟩ := X64.virtualBack hx (y := (⟨"com/example/entail/entail/model/Scope", "reaches", "(IZ)Z"⟩ : MethodName)) (z := (⟨"com/example/entail/entail/model/Scope", "reaches", "(IZ)Z"⟩ : MethodName)) hown (mvT hZ (hw _ (List.mem_of_getElem? (i := 4) rfl))) (mvT hZ (hw _ (List.mem_of_getElem? (i := 5) rfl))) (notFace_of_selects (args := #[]) (mvT hZ (hw _ (List.mem_of_getElem? (i := 7) rfl)))) (mvT hZ (hw _ (List.mem_of_getElem? (i := 7) rfl))) (mvT hZ (hw _ (List.mem_of_getElem? (i := 6) rfl))) (by decide) (backOf (W := 0) (r1_21 l Z a0 hw [] h0 n0 Z0 w P) hZ (hw _ (List.mem_of_getElem? (i := 8) rfl)) (hw _ (List.mem_of_getElem? (i := 2) rfl)) (by decide) (by decide)) q66a q66c (g := (mkF m 281 #[.val (.int p1), .val (.int p2), .val (.int p3), .val (.int (3 : Int32)), .val (.int (1 : Int32)), .val (.int (0 : Int32)), .val (.int (0 : Int32)), .val (.int (1 : Int32)), .val (.int (1 : Int32)), .val (.ref (w 6)), .val (.int (1 : Int32))] [(.int (0 : Int32)), (.int (1 : Int32)), (.ref (w 6))])) rfl (by rw [hml]; rfl) (Steps.refl _) (argsL := [(.int (1 : Int32)), (.int (0 : Int32))]) (rest := []) (lenOf pd0 rfl) rfl (by show 2 * 0 + _ ≤ _; exact Nat.le_of_eq rfl) (hb hby at_281) (fun _ _ => ⟨rfl, e64, (by decide : 0 + 0 ≤ _), (by decide : 0 + 0 ≤ _)⟩)
        dsimp only [Pt.U, Pt.locs, Pt.cells, Pt.slots] at X66 l66 y66 z66 st66 hQ66
        subst l66 y66 z66
        obtain ⟨rfl, Nq66, e66⟩ := hQ66
        have N66 := Fr.app N0 Nq66
        refine Goes.tr st66 ?_
        refine Goes.by (fun _ kz => XS.iload X66.here hx rfl (hb hby at_284) rfl (XS.icmpNo X66.here hx rfl (hb hby at_286) rfl (teq (by decide : (1 : Int32) = (1 : Int32))).2 (XS.iconst X66.here hx rfl (hb hby at_289) kz))) ?_
        show Goes p e below (T66.setTop (mkF m 290 #[.val (.int p1), .val (.int p2), .val (.int p3), .val (.int (3 : Int32)), .val (.int (1 : Int32)), .val (.int (0 : Int32)), .val (.int (0 : Int32)), .val (.int (1 : Int32)), .val (.int (1 : Int32)), .val (.ref (w 6)), .val (.int (1 : Int32))] [(.int (1 : Int32))])) _
        refine Goes.by (fun _ kz => XS.goto X66.here hx rfl (pc0 := 290) (pc' := 294) rfl (hb hby at_290) (by decide) (by decide) kz) ?_
        show Goes p e below (T66.setTop (mkF m 294 #[.val (.int p1), .val (.int p2), .val (.int p3), .val (.int (3 : Int32)), .val (.int (1 : Int32)), .val (.int (0 : Int32)), .val (.int (0 : Int32)), .val (.int (1 : Int32)), .val (.int (1 : Int32)), .val (.ref (w 6)), .val (.int (1 : Int32))] [(.int (1 : Int32))])) _
        obtain ⟨fs, hr, hrun, hended, hW, hsame⟩ := X66.leave (v := some (.int (1 : Int32))) (fun h => by rw [Bd.returns] at h; cases h)
        exact ⟨_, _, retN X66 hx (t := .boolean) Bd.returns (by simp) (hb hby at_294) hr, hrun, hended, _, _, rfl, ⟨rfl, N66⟩, ⟨_, rfl⟩, hW, hsame.mono (by decide) (by decide)⟩
      · show Goes p e below (s₁.setTop (mkF m 65 #[.val (.int p1), .val (.int p2), .val (.int p3), .val (.int (4 : Int32)), .val (.int (1 : Int32)), .val (.int (0 : Int32)), .val (.int (0 : Int32)), .val (.int (1 : Int32)), .val (.int (1 : Int32)), .unset, .unset] [])) _
        refine Goes.by (fun _ kz => XS.iloadN X0.here hx rfl (hb hby at_65) rfl (XS.ifYes X0.here hx rfl (pc0 := 66) (pc' := 80) rfl (hb hby at_66) rfl ((if0 _ _).trans (feq (by decide : ¬ ((4 : Int32) = (0 : Int32)))).2) (by decide) (by decide) (XS.iloadN X0.here hx rfl (hb hby at_80) rfl kz))) ?_
        show Goes p e below (s₁.setTop (mkF m 81 #[.val (.int p1), .val (.int p2), .val (.int p3), .val (.int (4 : Int32)), .val (.int (1 : Int32)), .val (.int (0 : Int32)), .val (.int (0 : Int32)), .val (.int (1 : Int32)), .val (.int (1 : Int32)), .unset, .unset] [(.int (4 : Int32))])) _
        refine Goes.by (fun _ kz => XS.iconst X0.here hx rfl (hb hby at_81) (XS.icmpYes X0.here hx rfl (pc0 := 82) (pc' := 110) rfl (hb hby at_82) rfl (feq (by decide : ¬ ((4 : Int32) = (1 : Int32)))).2 (by decide) (by decide) (XS.iloadN X0.here hx rfl (hb hby at_110) rfl kz))) ?_
        show Goes p e below (s₁.setTop (mkF m 111 #[.val (.int p1), .val (.int p2), .val (.int p3), .val (.int (4 : Int32)), .val (.int (1 : Int32)), .val (.int (0 : Int32)), .val (.int (0 : Int32)), .val (.int (1 : Int32)), .val (.int (1 : Int32)), .unset, .unset] [(.int (4 : Int32))])) _
        refine Goes.by (fun _ kz => XS.iconst X0.here hx rfl (hb hby at_111) (XS.icmpYes X0.here hx rfl (pc0 := 112) (pc' := 140) rfl (hb hby at_112) rfl (feq (by decide : ¬ ((4 : Int32) = (2 : Int32)))).2 (by decide) (by decide) (XS.iloadN X0.here hx rfl (hb hby at_140) rfl kz))) ?_
        show Goes p e below (s₁.setTop (mkF m 141 #[.val (.int p1), .val (.int p2), .val (.int p3), .val (.int (4 : Int32)), .val (.int (1 : Int32)), .val (.int (0 : Int32)), .val (.int (0 : Int32)), .val (.int (1 : Int32)), .val (.int (1 : Int32)), .unset, .unset] [(.int (4 : Int32))])) _
        refine Goes.by (fun _ kz => XS.iconst X0.here hx rfl (hb hby at_141) (XS.icmpYes X0.here hx rfl (pc0 := 142) (pc' := 157) rfl (hb hby at_142) rfl (feq (by decide : ¬ ((4 : Int32) = (3 : Int32)))).2 (by decide) (by decide) (XS.iloadN X0.here hx rfl (hb hby at_157) rfl kz))) ?_
        show Goes p e below (s₁.setTop (mkF m 158 #[.val (.int p1), .val (.int p2), .val (.int p3), .val (.int (4 : Int32)), .val (.int (1 : Int32)), .val (.int (0 : Int32)), .val (.int (0 : Int32)), .val (.int (1 : Int32)), .val (.int (1 : Int32)), .unset, .unset] [(.int (4 : Int32))])) _
        refine Goes.by (fun _ kz => XS.iconst X0.here hx rfl (hb hby at_158) (XS.icmpNo X0.here hx rfl (hb hby at_159) rfl (teq (by decide : (4 : Int32) = (4 : Int32))).2 kz)) ?_
        obtain ⟨T67, X67, e67, st67⟩ := getS2 X0 hx hZ hown (host := "") (Or.inl (hw _ (List.mem_of_getElem? (i := 29) rfl))) Via.refl e0 P.2.2.2.2.2.2.2.2.2.2.2.2.2.2.1 (g := (mkF m 162 #[.val (.int p1), .val (.int p2), .val (.int p3), .val (.int (4 : Int32)), .val (.int (1 : Int32)), .val (.int (0 : Int32)), .val (.int (0 : Int32)), .val (.int (1 : Int32)), .val (.int (1 : Int32)), .unset, .unset] [])) rfl (hb hby at_162)
        refine Goes.by st67 ?_
        refine Goes.by (fun _ kz => XS.astore X67.here hx rfl (hb hby at_165) rfl rfl (l' := #[.val (.int p1), .val (.int p2), .val (.int p3), .val (.int (4 : Int32)), .val (.int (1 : Int32)), .val (.int (0 : Int32)), .val (.int (0 : Int32)), .val (.int (1 : Int32)), .val (.int (1 : Int32)), .val (.ref (w 7)), .unset]) rfl (XS.iload X67.here hx rfl (hb hby at_167) rfl (XS.ifNo X67.here hx rfl (hb hby at_169) rfl ((if0 _ _).trans (feq (by decide : ¬ ((1 : Int32) = (0 : Int32)))).1) kz))) ?_
        show Goes p e below (T67.setTop (mkF m 172 #[.val (.int p1), .val (.int p2), .val (.int p3), .val (.int (4 : Int32)), .val (.int (1 : Int32)), .val (.int (0 : Int32)), .val (.int (0 : Int32)), .val (.int (1 : Int32)), .val (.int (1 : Int32)), .val (.ref (w 7)), .unset] [])) _
        refine Goes.by (fun _ kz => XS.iload X67.here hx rfl (hb hby at_172) rfl (XS.ifYes X67.here hx rfl (pc0 := 174) (pc' := 181) rfl (hb hby at_174) rfl ((if0 _ _).trans (teq (by decide : (0 : Int32) = (0 : Int32))).1) (by decide) (by decide) (XS.iconst X67.here hx rfl (hb hby at_181) kz))) ?_
        show Goes p e below (T67.setTop (mkF m 182 #[.val (.int p1), .val (.int p2), .val (.int p3), .val (.int (4 : Int32)), .val (.int (1 : Int32)), .val (.int (0 : Int32)), .val (.int (0 : Int32)), .val (.int (1 : Int32)), .val (.int (1 : Int32)), .val (.ref (w 7)), .unset] [(.int (0 : Int32))])) _
        refine Goes.by (fun _ kz => XS.istore X67.here hx rfl (hb hby at_182) rfl (l' := #[.val (.int p1), .val (.int p2), .val (.int p3), .val (.int (4 : Int32)), .val (.int (1 : Int32)), .val (.int (0 : Int32)), .val (.int (0 : Int32)), .val (.int (1 : Int32)), .val (.int (1 : Int32)), .val (.ref (w 7)), .val (.int (0 : Int32))]) rfl (XS.goto X67.here hx rfl (pc0 := 184) (pc' := 275) rfl (hb hby at_184) (by decide) (by decide) (XS.aload X67.here hx rfl (hb hby at_275) rfl rfl kz))) ?_
        show Goes p e below (T67.setTop (mkF m 277 #[.val (.int p1), .val (.int p2), .val (.int p3), .val (.int (4 : Int32)), .val (.int (1 : Int32)), .val (.int (0 : Int32)), .val (.int (0 : Int32)), .val (.int (1 : Int32)), .val (.int (1 : Int32)), .val (.ref (w 7)), .val (.int (0 : Int32))] [(.ref (w 7))])) _
        refine Goes.by (fun _ kz => XS.iload X67.here hx rfl (hb hby at_277) rfl (XS.iload X67.here hx rfl (hb hby at_279) rfl kz)) ?_
        obtain ⟨cq69, kq69, q69a, q69b, q69c⟩ := isOf hZ e67 P.2.2.2.2.2.2.2.2.2.2.2.2.2.2.2.1
        obtain ⟨_, _, ⟨T69, L69, k69, n69⟩, -, X69, ⟨Lc69, hQ69, l69, y69, z69⟩, st69⟩ := X67.virtualBack hx (y := (⟨"com/example/entail/entail/model/Scope", "reaches", "(IZ)Z"⟩ : MethodName)) (z := (⟨"com/example/entail/entail/model/Scope", "reaches", "(IZ)Z"⟩ : MethodName)) hown (mvT hZ (hw _ (List.mem_of_getElem? (i := 4) rfl))) (mvT hZ (hw _ (List.mem_of_getElem? (i := 5) rfl))) (notFace_of_selects (args := #[]) (mvT hZ (hw _ (List.mem_of_getElem? (i := 7) rfl)))) (mvT hZ (hw _ (List.mem_of_getElem? (i := 7) rfl))) (mvT hZ (hw _ (List.mem_of_getElem? (i := 6) rfl))) (by decide) (backOf (W := 0) (r1_22 l Z a0 hw [] h0 n0 Z0 w P) hZ (hw _ (List.mem_of_getElem? (i := 8) rfl)) (hw _ (List.mem_of_getElem? (i := 2) rfl)) (by decide) (by decide)) q69a q69c (g := (mkF m 281 #[.val (.int p1), .val (.int p2), .val (.int p3), .val (.int (4 : Int32)), .val (.int (1 : Int32)), .val (.int (0 : Int32)), .val (.int (0 : Int32)), .val (.int (1 : Int32)), .val (.int (1 : Int32)), .val (.ref (w 7)), .val (.int (0 : Int32))] [(.int (0 : Int32)), (.int (1 : Int32)), (.ref (w 7))])) rfl (by rw [hml]; rfl) (Steps.refl _) (argsL := [(.int (1 : Int32)), (.int (0 : Int32))]) (rest := []) (lenOf pd0 rfl) rfl (by show 2 * 0 + _ ≤ _; exact Nat.le_of_eq rfl) (hb hby at_281) (fun _ _ => ⟨rfl, e67, (by decide : 0 + 0 ≤ _), (by decide : 0 + 0 ≤ _)⟩)
        dsimp only [Pt.U, Pt.locs, Pt.cells, Pt.slots] at X69 l69 y69 z69 st69 hQ69
        subst l69 y69 z69
        obtain ⟨rfl, Nq69, e69⟩ := hQ69
        have N69 := Fr.app N0 Nq69
        refine Goes.tr st69 ?_
        refine Goes.by (fun _ kz => XS.iload X69.here hx rfl (hb hby at_284) rfl (XS.icmpNo X69.here hx rfl (hb hby at_286) rfl (teq (by decide : (0 : Int32) = (0 : Int32))).2 (XS.iconst X69.here hx rfl (hb hby at_289) kz))) ?_
        show Goes p e below (T69.setTop (mkF m 290 #[.val (.int p1), .val (.int p2), .val (.int p3), .val (.int (4 : Int32)), .val (.int (1 : Int32)), .val (.int (0 : Int32)), .val (.int (0 : Int32)), .val (.int (1 : Int32)), .val (.int (1 : Int32)), .val (.ref (w 7)), .val (.int (0 : Int32))] [(.int (1 : Int32))])) _
        refine Goes.by (fun _ kz => XS.goto X69.here hx rfl (pc0 := 290) (pc' := 294) rfl (hb hby at_290) (by decide) (by decide) kz) ?_
        show Goes p e below (T69.setTop (mkF m 294 #[.val (.int p1), .val (.int p2), .val (.int p3), .val (.int (4 : Int32)), .val (.int (1 : Int32)), .val (.int (0 : Int32)), .val (.int (0 : Int32)), .val (.int (1 : Int32)), .val (.int (1 : Int32)), .val (.ref (w 7)), .val (.int (0 : Int32))] [(.int (1 : Int32))])) _
        obtain ⟨fs, hr, hrun, hended, hW, hsame⟩ := X69.leave (v := some (.int (1 : Int32))) (fun h => by rw [Bd.returns] at h; cases h)
        exact ⟨_, _, retN X69 hx (t := .boolean) Bd.returns (by simp) (hb hby at_294) hr, hrun, hended, _, _, rfl, ⟨rfl, N69⟩, ⟨_, rfl⟩, hW, hsame.mono (by decide) (by decide)⟩
      · show Goes p e below (s₁.setTop (mkF m 65 #[.val (.int p1), .val (.int p2), .val (.int p3), .val (.int (5 : Int32)), .val (.int (1 : Int32)), .val (.int (0 : Int32)), .val (.int (0 : Int32)), .val (.int (1 : Int32)), .val (.int (1 : Int32)), .unset, .unset] [])) _
        refine Goes.by (fun _ kz => XS.iloadN X0.here hx rfl (hb hby at_65) rfl (XS.ifYes X0.here hx rfl (pc0 := 66) (pc' := 80) rfl (hb hby at_66) rfl ((if0 _ _).trans (feq (by decide : ¬ ((5 : Int32) = (0 : Int32)))).2) (by decide) (by decide) (XS.iloadN X0.here hx rfl (hb hby at_80) rfl kz))) ?_
        show Goes p e below (s₁.setTop (mkF m 81 #[.val (.int p1), .val (.int p2), .val (.int p3), .val (.int (5 : Int32)), .val (.int (1 : Int32)), .val (.int (0 : Int32)), .val (.int (0 : Int32)), .val (.int (1 : Int32)), .val (.int (1 : Int32)), .unset, .unset] [(.int (5 : Int32))])) _
        refine Goes.by (fun _ kz => XS.iconst X0.here hx rfl (hb hby at_81) (XS.icmpYes X0.here hx rfl (pc0 := 82) (pc' := 110) rfl (hb hby at_82) rfl (feq (by decide : ¬ ((5 : Int32) = (1 : Int32)))).2 (by decide) (by decide) (XS.iloadN X0.here hx rfl (hb hby at_110) rfl kz))) ?_
        show Goes p e below (s₁.setTop (mkF m 111 #[.val (.int p1), .val (.int p2), .val (.int p3), .val (.int (5 : Int32)), .val (.int (1 : Int32)), .val (.int (0 : Int32)), .val (.int (0 : Int32)), .val (.int (1 : Int32)), .val (.int (1 : Int32)), .unset, .unset] [(.int (5 : Int32))])) _
        refine Goes.by (fun _ kz => XS.iconst X0.here hx rfl (hb hby at_111) (XS.icmpYes X0.here hx rfl (pc0 := 112) (pc' := 140) rfl (hb hby at_112) rfl (feq (by decide : ¬ ((5 : Int32) = (2 : Int32)))).2 (by decide) (by decide) (XS.iloadN X0.here hx rfl (hb hby at_140) rfl kz))) ?_
        show Goes p e below (s₁.setTop (mkF m 141 #[.val (.int p1), .val (.int p2), .val (.int p3), .val (.int (5 : Int32)), .val (.int (1 : Int32)), .val (.int (0 : Int32)), .val (.int (0 : Int32)), .val (.int (1 : Int32)), .val (.int (1 : Int32)), .unset, .unset] [(.int (5 : Int32))])) _
        refine Goes.by (fun _ kz => XS.iconst X0.here hx rfl (hb hby at_141) (XS.icmpYes X0.here hx rfl (pc0 := 142) (pc' := 157) rfl (hb hby at_142) rfl (feq (by decide : ¬ ((5 : Int32) = (3 : Int32)))).2 (by decide) (by decide) (XS.iloadN X0.here hx rfl (hb hby at_157) rfl kz))) ?_
        show Goes p e below (s₁.setTop (mkF m 158 #[.val (.int p1), .val (.int p2), .val (.int p3), .val (.int (5 : Int32)), .val (.int (1 : Int32)), .val (.int (0 : Int32)), .val (.int (0 : Int32)), .val (.int (1 : Int32)), .val (.int (1 : Int32)), .unset, .unset] [(.int (5 : Int32))])) _
        refine Goes.by (fun _ kz => XS.iconst X0.here hx rfl (hb hby at_158) (XS.icmpYes X0.here hx rfl (pc0 := 159) (pc' := 187) rfl (hb hby at_159) rfl (feq (by decide : ¬ ((5 : Int32) = (4 : Int32)))).2 (by decide) (by decide) (XS.iloadN X0.here hx rfl (hb hby at_187) rfl kz))) ?_
        show Goes p e below (s₁.setTop (mkF m 188 #[.val (.int p1), .val (.int p2), .val (.int p3), .val (.int (5 : Int32)), .val (.int (1 : Int32)), .val (.int (0 : Int32)), .val (.int (0 : Int32)), .val (.int (1 : Int32)), .val (.int (1 : Int32)), .unset, .unset] [(.int (5 : Int32))])) _
        refine Goes.by (fun _ kz => XS.iconst X0.here hx rfl (hb hby at_188) (XS.icmpNo X0.here hx rfl (hb hby at_189) rfl (teq (by decide : (5 : Int32) = (5 : Int32))).2 kz)) ?_
        obtain ⟨T70, X70, e70, st70⟩ := getS2 X0 hx hZ hown (host := "") (Or.inl (hw _ (List.mem_of_getElem? (i := 31) rfl))) Via.refl e0 P.2.2.2.2.2.2.2.2.2.2.2.2.2.2.2.2.1 (g := (mkF m 192 #[.val (.int p1), .val (.int p2), .val (.int p3), .val (.int (5 : Int32)), .val (.int (1 : Int32)), .val (.int (0 : Int32)), .val (.int (0 : Int32)), .val (.int (1 : Int32)), .val (.int (1 : Int32)), .unset, .unset] [])) rfl (hb hby at_192)
        refine Goes.by st70 ?_
        refine Goes.by (fun _ kz => XS.astore X70.here hx rfl (hb hby at_195) rfl rfl (l' := #[.val (.int p1), .val (.int p2), .val (.int p3), .val (.int (5 : Int32)), .val (.int (1 : Int32)), .val (.int (0 : Int32)), .val (.int (0 : Int32)), .val (.int (1 : Int32)), .val (.int (1 : Int32)), .val (.ref (w 8)), .unset]) rfl (XS.iload X70.here hx rfl (hb hby at_197) rfl (XS.ifNo X70.here hx rfl (hb hby at_199) rfl ((if0 _ _).trans (feq (by decide : ¬ ((1 : Int32) = (0 : Int32)))).1) kz))) ?_
        show Goes p e below (T70.setTop (mkF m 202 #[.val (.int p1), .val (.int p2), .val (.int p3), .val (.int (5 : Int32)), .val (.int (1 : Int32)), .val (.int (0 : Int32)), .val (.int (0 : Int32)), .val (.int (1 : Int32)), .val (.int (1 : Int32)), .val (.ref (w 8)), .unset] [])) _
        refine Goes.by (fun _ kz => XS.iload X70.here hx rfl (hb hby at_202) rfl (XS.ifNo X70.here hx rfl (hb hby at_204) rfl ((if0 _ _).trans (teq (by decide : (0 : Int32) = (0 : Int32))).2) (XS.iconst X70.here hx rfl (hb hby at_207) kz))) ?_
        show Goes p e below (T70.setTop (mkF m 208 #[.val (.int p1), .val (.int p2), .val (.int p3), .val (.int (5 : Int32)), .val (.int (1 : Int32)), .val (.int (0 : Int32)), .val (.int (0 : Int32)), .val (.int (1 : Int32)), .val (.int (1 : Int32)), .val (.ref (w 8)), .unset] [(.int (1 : Int32))])) _
        refine Goes.by (fun _ kz => XS.goto X70.here hx rfl (pc0 := 208) (pc' := 212) rfl (hb hby at_208) (by decide) (by decide) (XS.istore X70.here hx rfl (hb hby at_212) rfl (l' := #[.val (.int p1), .val (.int p2), .val (.int p3), .val (.int (5 : Int32)), .val (.int (1 : Int32)), .val (.int (0 : Int32)), .val (.int (0 : Int32)), .val (.int (1 : Int32)), .val (.int (1 : Int32)), .val (.ref (w 8)), .val (.int (1 : Int32))]) rfl (XS.goto X70.here hx rfl (pc0 := 214) (pc' := 275) rfl (hb hby at_214) (by decide) (by decide) kz))) ?_
        show Goes p e below (T70.setTop (mkF m 275 #[.val (.int p1), .val (.int p2), .val (.int p3), .val (.int (5 : Int32)), .val (.int (1 : Int32)), .val (.int (0 : Int32)), .val (.int (0 : Int32)), .val (.int (1 : Int32)), .val (.int (1 : Int32)), .val (.ref (w 8)), .val (.int (1 : Int32))] [])) _
        refine Goes.by (fun _ kz => XS.aload X70.here hx rfl (hb hby at_275) rfl rfl (XS.iload X70.here hx rfl (hb hby at_277) rfl (XS.iload X70.here hx rfl (hb hby at_279) rfl kz))) ?_
        obtain ⟨cq72, kq72, q72a, q72b, q72c⟩ := isOf hZ e70 P.2.2.2.2.2.2.2.2.2.2.2.2.2.2.2.2.2.1
        obtain ⟨_, _, ⟨T72, L72, k72, n72⟩, -, X72, ⟨Lc72, hQ72, l72, y72, z72⟩, st72⟩ := X70.virtualBack hx (y := (⟨"com/example/entail/entail/model/Scope", "reaches", "(IZ)Z"⟩ : MethodName)) (z := (⟨"com/example/entail/entail/model/Scope", "reaches", "(IZ)Z"⟩ : MethodName)) hown (mvT hZ (hw _ (List.mem_of_getElem? (i := 4) rfl))) (mvT hZ (hw _ (List.mem_of_getElem? (i := 5) rfl))) (notFace_of_selects (args := #[]) (mvT hZ (hw _ (List.mem_of_getElem? (i := 7) rfl)))) (mvT hZ (hw _ (List.mem_of_getElem? (i := 7) rfl))) (mvT hZ (hw _ (List.mem_of_getElem? (i := 6) rfl))) (by decide) (backOf (W := 0) (r1_23 l Z a0 hw [] h0 n0 Z0 w P) hZ (hw _ (List.mem_of_getElem? (i := 8) rfl)) (hw _ (List.mem_of_getElem? (i := 2) rfl)) (by decide) (by decide)) q72a q72c (g := (mkF m 281 #[.val (.int p1), .val (.int p2), .val (.int p3), .val (.int (5 : Int32)), .val (.int (1 : Int32)), .val (.int (0 : Int32)), .val (.int (0 : Int32)), .val (.int (1 : Int32)), .val (.int (1 : Int32)), .val (.ref (w 8)), .val (.int (1 : Int32))] [(.int (0 : Int32)), (.int (1 : Int32)), (.ref (w 8))])) rfl (by rw [hml]; rfl) (Steps.refl _) (argsL := [(.int (1 : Int32)), (.int (0 : Int32))]) (rest := []) (lenOf pd0 rfl) rfl (by show 2 * 0 + _ ≤ _; exact Nat.le_of_eq rfl) (hb hby at_281) (fun _ _ => ⟨rfl, e70, (by decide : 0 + 0 ≤ _), (by decide : 0 + 0 ≤ _)⟩)
        dsimp only [Pt.U, Pt.locs, Pt.cells, Pt.slots] at X72 l72 y72 z72 st72 hQ72
        subst l72 y72 z72
        obtain ⟨rfl, Nq72, e72⟩ := hQ72
        have N72 := Fr.app N0 Nq72
        refine Goes.tr st72 ?_
        refine Goes.by (fun _ kz => XS.iload X72.here hx rfl (hb hby at_284) rfl (XS.icmpNo X72.here hx rfl (hb hby at_286) rfl (teq (by decide : (1 : Int32) = (1 : Int32))).2 (XS.iconst X72.here hx rfl (hb hby at_289) kz))) ?_
        show Goes p e below (T72.setTop (mkF m 290 #[.val (.int p1), .val (.int p2), .val (.int p3), .val (.int (5 : Int32)), .val (.int (1 : Int32)), .val (.int (0 : Int32)), .val (.int (0 : Int32)), .val (.int (1 : Int32)), .val (.int (1 : Int32)), .val (.ref (w 8)), .val (.int (1 : Int32))] [(.int (1 : Int32))])) _
        refine Goes.by (fun _ kz => XS.goto X72.here hx rfl (pc0 := 290) (pc' := 294) rfl (hb hby at_290) (by decide) (by decide) kz) ?_
        show Goes p e below (T72.setTop (mkF m 294 #[.val (.int p1), .val (.int p2), .val (.int p3), .val (.int (5 : Int32)), .val (.int (1 : Int32)), .val (.int (0 : Int32)), .val (.int (0 : Int32)), .val (.int (1 : Int32)), .val (.int (1 : Int32)), .val (.ref (w 8)), .val (.int (1 : Int32))] [(.int (1 : Int32))])) _
        obtain ⟨fs, hr, hrun, hended, hW, hsame⟩ := X72.leave (v := some (.int (1 : Int32))) (fun h => by rw [Bd.returns] at h; cases h)
        exact ⟨_, _, retN X72 hx (t := .boolean) Bd.returns (by simp) (hb hby at_294) hr, hrun, hended, _, _, rfl, ⟨rfl, N72⟩, ⟨_, rfl⟩, hW, hsame.mono (by decide) (by decide)⟩
      · show Goes p e below (s₁.setTop (mkF m 65 #[.val (.int p1), .val (.int p2), .val (.int p3), .val (.int (6 : Int32)), .val (.int (1 : Int32)), .val (.int (0 : Int32)), .val (.int (0 : Int32)), .val (.int (1 : Int32)), .val (.int (1 : Int32)), .unset, .unset] [])) _
        refine Goes.by (fun _ kz => XS.iloadN X0.here hx rfl (hb hby at_65) rfl (XS.ifYes X0.here hx rfl (pc0 := 66) (pc' := 80) rfl (hb hby at_66) rfl ((if0 _ _).trans (feq (by decide : ¬ ((6 : Int32) = (0 : Int32)))).2) (by decide) (by decide) (XS.iloadN X0.here hx rfl (hb hby at_80) rfl kz))) ?_
        show Goes p e below (s₁.setTop (mkF m 81 #[.val (.int p1), .val (.int p2), .val (.int p3), .val (.int (6 : Int32)), .val (.int (1 : Int32)), .val (.int (0 : Int32)), .val (.int (0 : Int32)), .val (.int (1 : Int32)), .val (.int (1 : Int32)), .unset, .unset] [(.int (6 : Int32))])) _
        refine Goes.by (fun _ kz => XS.iconst X0.here hx rfl (hb hby at_81) (XS.icmpYes X0.here hx rfl (pc0 := 82) (pc' := 110) rfl (hb hby at_82) rfl (feq (by decide : ¬ ((6 : Int32) = (1 : Int32)))).2 (by decide) (by decide) (XS.iloadN X0.here hx rfl (hb hby at_110) rfl kz))) ?_
        show Goes p e below (s₁.setTop (mkF m 111 #[.val (.int p1), .val (.int p2), .val (.int p3), .val (.int (6 : Int32)), .val (.int (1 : Int32)), .val (.int (0 : Int32)), .val (.int (0 : Int32)), .val (.int (1 : Int32)), .val (.int (1 : Int32)), .unset, .unset] [(.int (6 : Int32))])) _
        refine Goes.by (fun _ kz => XS.iconst X0.here hx rfl (hb hby at_111) (XS.icmpYes X0.here hx rfl (pc0 := 112) (pc' := 140) rfl (hb hby at_112) rfl (feq (by decide : ¬ ((6 : Int32) = (2 : Int32)))).2 (by decide) (by decide) (XS.iloadN X0.here hx rfl (hb hby at_140) rfl kz))) ?_
        show Goes p e below (s₁.setTop (mkF m 141 #[.val (.int p1), .val (.int p2), .val (.int p3), .val (.int (6 : Int32)), .val (.int (1 : Int32)), .val (.int (0 : Int32)), .val (.int (0 : Int32)), .val (.int (1 : Int32)), .val (.int (1 : Int32)), .unset, .unset] [(.int (6 : Int32))])) _
        refine Goes.by (fun _ kz => XS.iconst X0.here hx rfl (hb hby at_141) (XS.icmpYes X0.here hx rfl (pc0 := 142) (pc' := 157) rfl (hb hby at_142) rfl (feq (by decide : ¬ ((6 : Int32) = (3 : Int32)))).2 (by decide) (by decide) (XS.iloadN X0.here hx rfl (hb hby at_157) rfl kz))) ?_
        show Goes p e below (s₁.setTop (mkF m 158 #[.val (.int p1), .val (.int p2), .val (.int p3), .val (.int (6 : Int32)), .val (.int (1 : Int32)), .val (.int (0 : Int32)), .val (.int (0 : Int32)), .val (.int (1 : Int32)), .val (.int (1 : Int32)), .unset, .unset] [(.int (6 : Int32))])) _
        refine Goes.by (fun _ kz => XS.iconst X0.here hx rfl (hb hby at_158) (XS.icmpYes X0.here hx rfl (pc0 := 159) (pc' := 187) rfl (hb hby at_159) rfl (feq (by decide : ¬ ((6 : Int32) = (4 : Int32)))).2 (by decide) (by decide) (XS.iloadN X0.here hx rfl (hb hby at_187) rfl kz))) ?_
        show Goes p e below (s₁.setTop (mkF m 188 #[.val (.int p1), .val (.int p2), .val (.int p3), .val (.int (6 : Int32)), .val (.int (1 : Int32)), .val (.int (0 : Int32)), .val (.int (0 : Int32)), .val (.int (1 : Int32)), .val (.int (1 : Int32)), .unset, .unset] [(.int (6 : Int32))])) _
        refine Goes.by (fun _ kz => XS.iconst X0.here hx rfl (hb hby at_188) (XS.icmpYes X0.here hx rfl (pc0 := 189) (pc' := 217) rfl (hb hby at_189) rfl (feq (by decide : ¬ ((6 : Int32) = (5 : Int32)))).2 (by decide) (by decide) (XS.iloadN X0.here hx rfl (hb hby at_217) rfl kz))) ?_
        show Goes p e below (s₁.setTop (mkF m 218 #[.val (.int p1), .val (.int p2), .val (.int p3), .val (.int (6 : Int32)), .val (.int (1 : Int32)), .val (.int (0 : Int32)), .val (.int (0 : Int32)), .val (.int (1 : Int32)), .val (.int (1 : Int32)), .unset, .unset] [(.int (6 : Int32))])) _
        refine Goes.by (fun _ kz => XS.bipush X0.here hx rfl (hb hby at_218) (XS.icmpNo X0.here hx rfl (hb hby at_220) rfl (teq (by decide : (6 : Int32) = (6 : Int32))).2 kz)) ?_
        obtain ⟨T73, X73, e73, st73⟩ := getS2 X0 hx hZ hown (host := "") (Or.inl (hw _ (List.mem_of_getElem? (i := 21) rfl))) Via.refl e0 P.2.2.2.2.2.2.2.2.1 (g := (mkF m 223 #[.val (.int p1), .val (.int p2), .val (.int p3), .val (.int (6 : Int32)), .val (.int (1 : Int32)), .val (.int (0 : Int32)), .val (.int (0 : Int32)), .val (.int (1 : Int32)), .val (.int (1 : Int32)), .unset, .unset] [])) rfl (hb hby at_223)
        refine Goes.by st73 ?_
        refine Goes.by (fun _ kz => XS.astore X73.here hx rfl (hb hby at_226) rfl rfl (l' := #[.val (.int p1), .val (.int p2), .val (.int p3), .val (.int (6 : Int32)), .val (.int (1 : Int32)), .val (.int (0 : Int32)), .val (.int (0 : Int32)), .val (.int (1 : Int32)), .val (.int (1 : Int32)), .val (.ref (w 4)), .unset]) rfl (XS.iload X73.here hx rfl (hb hby at_228) rfl (XS.istore X73.here hx rfl (hb hby at_230) rfl (l' := #[.val (.int p1), .val (.int p2), .val (.int p3), .val (.int (6 : Int32)), .val (.int (1 : Int32)), .val (.int (0 : Int32)), .val (.int (0 : Int32)), .val (.int (1 : Int32)), .val (.int (1 : Int32)), .val (.ref (w 4)), .val (.int (1 : Int32))]) rfl kz))) ?_
        show Goes p e below (T73.setTop (mkF m 232 #[.val (.int p1), .val (.int p2), .val (.int p3), .val (.int (6 : Int32)), .val (.int (1 : Int32)), .val (.int (0 : Int32)), .val (.int (0 : Int32)), .val (.int (1 : Int32)), .val (.int (1 : Int32)), .val (.ref (w 4)), .val (.int (1 : Int32))] [])) _
        refine Goes.by (fun _ kz => XS.goto X73.here hx rfl (pc0 := 232) (pc' := 275) rfl (hb hby at_232) (by decide) (by decide) (XS.aload X73.here hx rfl (hb hby at_275) rfl rfl (XS.iload X73.here hx rfl (hb hby at_277) rfl kz))) ?_
        show Goes p e below (T73.setTop (mkF m 279 #[.val (.int p1), .val (.int p2), .val (.int p3), .val (.int (6 : Int32)), .val (.int (1 : Int32)), .val (.int (0 : Int32)), .val (.int (0 : Int32)), .val (.int (1 : Int32)), .val (.int (1 : Int32)), .val (.ref (w 4)), .val (.int (1 : Int32))] [(.int (1 : Int32)), (.ref (w 4))])) _
        refine Goes.by (fun _ kz => XS.iload X73.here hx rfl (hb hby at_279) rfl kz) ?_
        obtain ⟨cq75, kq75, q75a, q75b, q75c⟩ := isOf hZ e73 P.2.2.2.2.2.2.2.2.2.1
        obtain ⟨_, _, ⟨T75, L75, k75, n75⟩, -, X75, ⟨Lc75, hQ75, l75, y75, z75⟩, st75⟩ := X73.virtualBack hx (y := (⟨"com/example/entail/entail/model/Scope", "reaches", "(IZ)Z"⟩ : MethodName)) (z := (⟨"com/example/entail/entail/model/Scope", "reaches", "(IZ)Z"⟩ : MethodName)) hown (mvT hZ (hw _ (List.mem_of_getElem? (i := 4) rfl))) (mvT hZ (hw _ (List.mem_of_getElem? (i := 5) rfl))) (notFace_of_selects (args := #[]) (mvT hZ (hw _ (List.mem_of_getElem? (i := 7) rfl)))) (mvT hZ (hw _ (List.mem_of_getElem? (i := 7) rfl))) (mvT hZ (hw _ (List.mem_of_getElem? (i := 6) rfl))) (by decide) (backOf (W := 0) (r1_24 l Z a0 hw [] h0 n0 Z0 w P) hZ (hw _ (List.mem_of_getElem? (i := 8) rfl)) (hw _ (List.mem_of_getElem? (i := 2) rfl)) (by decide) (by decide)) q75a q75c (g := (mkF m 281 #[.val (.int p1), .val (.int p2), .val (.int p3), .val (.int (6 : Int32)), .val (.int (1 : Int32)), .val (.int (0 : Int32)), .val (.int (0 : Int32)), .val (.int (1 : Int32)), .val (.int (1 : Int32)), .val (.ref (w 4)), .val (.int (1 : Int32))] [(.int (0 : Int32)), (.int (1 : Int32)), (.ref (w 4))])) rfl (by rw [hml]; rfl) (Steps.refl _) (argsL := [(.int (1 : Int32)), (.int (0 : Int32))]) (rest := []) (lenOf pd0 rfl) rfl (by show 2 * 0 + _ ≤ _; exact Nat.le_of_eq rfl) (hb hby at_281) (fun _ _ => ⟨rfl, e73, (by decide : 0 + 0 ≤ _), (by decide : 0 + 0 ≤ _)⟩)
        dsimp only [Pt.U, Pt.locs, Pt.cells, Pt.slots] at X75 l75 y75 z75 st75 hQ75
        subst l75 y75 z75
        obtain ⟨rfl, Nq75, e75⟩ := hQ75
        have N75 := Fr.app N0 Nq75
        refine Goes.tr st75 ?_
        refine Goes.by (fun _ kz => XS.iload X75.here hx rfl (hb hby at_284) rfl (XS.icmpNo X75.here hx rfl (hb hby at_286) rfl (teq (by decide : (1 : Int32) = (1 : Int32))).2 (XS.iconst X75.here hx rfl (hb hby at_289) kz))) ?_
        show Goes p e below (T75.setTop (mkF m 290 #[.val (.int p1), .val (.int p2), .val (.int p3), .val (.int (6 : Int32)), .val (.int (1 : Int32)), .val (.int (0 : Int32)), .val (.int (0 : Int32)), .val (.int (1 : Int32)), .val (.int (1 : Int32)), .val (.ref (w 4)), .val (.int (1 : Int32))] [(.int (1 : Int32))])) _
        refine Goes.by (fun _ kz => XS.goto X75.here hx rfl (pc0 := 290) (pc' := 294) rfl (hb hby at_290) (by decide) (by decide) kz) ?_
        show Goes p e below (T75.setTop (mkF m 294 #[.val (.int p1), .val (.int p2), .val (.int p3), .val (.int (6 : Int32)), .val (.int (1 : Int32)), .val (.int (0 : Int32)), .val (.int (0 : Int32)), .val (.int (1 : Int32)), .val (.int (1 : Int32)), .val (.ref (w 4)), .val (.int (1 : Int32))] [(.int (1 : Int32))])) _
        obtain ⟨fs, hr, hrun, hended, hW, hsame⟩ := X75.leave (v := some (.int (1 : Int32))) (fun h => by rw [Bd.returns] at h; cases h)
        exact ⟨_, _, retN X75 hx (t := .boolean) Bd.returns (by simp) (hb hby at_294) hr, hrun, hended, _, _, rfl, ⟨rfl, N75⟩, ⟨_, rfl⟩, hW, hsame.mono (by decide) (by decide)⟩
      · show Goes p e below (s₁.setTop (mkF m 65 #[.val (.int p1), .val (.int p2), .val (.int p3), .val (.int (7 : Int32)), .val (.int (1 : Int32)), .val (.int (0 : Int32)), .val (.int (0 : Int32)), .val (.int (1 : Int32)), .val (.int (1 : Int32)), .unset, .unset] [])) _
        refine Goes.by (fun _ kz => XS.iloadN X0.here hx rfl (hb hby at_65) rfl (XS.ifYes X0.here hx rfl (pc0 := 66) (pc' := 80) rfl (hb hby at_66) rfl ((if0 _ _).trans (feq (by decide : ¬ ((7 : Int32) = (0 : Int32)))).2) (by decide) (by decide) (XS.iloadN X0.here hx rfl (hb hby at_80) rfl kz))) ?_
        show Goes p e below (s₁.setTop (mkF m 81 #[.val (.int p1), .val (.int p2), .val (.int p3), .val (.int (7 : Int32)), .val (.int (1 : Int32)), .val (.int (0 : Int32)), .val (.int (0 : Int32)), .val (.int (1 : Int32)), .val (.int (1 : Int32)), .unset, .unset] [(.int (7 : Int32))])) _
        refine Goes.by (fun _ kz => XS.iconst X0.here hx rfl (hb hby at_81) (XS.icmpYes X0.here hx rfl (pc0 := 82) (pc' := 110) rfl (hb hby at_82) rfl (feq (by decide : ¬ ((7 : Int32) = (1 : Int32)))).2 (by decide) (by decide) (XS.iloadN X0.here hx rfl (hb hby at_110) rfl kz))) ?_
        show Goes p e below (s₁.setTop (mkF m 111 #[.val (.int p1), .val (.int p2), .val (.int p3), .val (.int (7 : Int32)), .val (.int (1 : Int32)), .val (.int (0 : Int32)), .val (.int (0 : Int32)), .val (.int (1 : Int32)), .val (.int (1 : Int32)), .unset, .unset] [(.int (7 : Int32))])) _
        refine Goes.by (fun _ kz => XS.iconst X0.here hx rfl (hb hby at_111) (XS.icmpYes X0.here hx rfl (pc0 := 112) (pc' := 140) rfl (hb hby at_112) rfl (feq (by decide : ¬ ((7 : Int32) = (2 : Int32)))).2 (by decide) (by decide) (XS.iloadN X0.here hx rfl (hb hby at_140) rfl kz))) ?_
        show Goes p e below (s₁.setTop (mkF m 141 #[.val (.int p1), .val (.int p2), .val (.int p3), .val (.int (7 : Int32)), .val (.int (1 : Int32)), .val (.int (0 : Int32)), .val (.int (0 : Int32)), .val (.int (1 : Int32)), .val (.int (1 : Int32)), .unset, .unset] [(.int (7 : Int32))])) _
        refine Goes.by (fun _ kz => XS.iconst X0.here hx rfl (hb hby at_141) (XS.icmpYes X0.here hx rfl (pc0 := 142) (pc' := 157) rfl (hb hby at_142) rfl (feq (by decide : ¬ ((7 : Int32) = (3 : Int32)))).2 (by decide) (by decide) (XS.iloadN X0.here hx rfl (hb hby at_157) rfl kz))) ?_
        show Goes p e below (s₁.setTop (mkF m 158 #[.val (.int p1), .val (.int p2), .val (.int p3), .val (.int (7 : Int32)), .val (.int (1 : Int32)), .val (.int (0 : Int32)), .val (.int (0 : Int32)), .val (.int (1 : Int32)), .val (.int (1 : Int32)), .unset, .unset] [(.int (7 : Int32))])) _
        refine Goes.by (fun _ kz => XS.iconst X0.here hx rfl (hb hby at_158) (XS.icmpYes X0.here hx rfl (pc0 := 159) (pc' := 187) rfl (hb hby at_159) rfl (feq (by decide : ¬ ((7 : Int32) = (4 : Int32)))).2 (by decide) (by decide) (XS.iloadN X0.here hx rfl (hb hby at_187) rfl kz))) ?_
        show Goes p e below (s₁.setTop (mkF m 188 #[.val (.int p1), .val (.int p2), .val (.int p3), .val (.int (7 : Int32)), .val (.int (1 : Int32)), .val (.int (0 : Int32)), .val (.int (0 : Int32)), .val (.int (1 : Int32)), .val (.int (1 : Int32)), .unset, .unset] [(.int (7 : Int32))])) _
        refine Goes.by (fun _ kz => XS.iconst X0.here hx rfl (hb hby at_188) (XS.icmpYes X0.here hx rfl (pc0 := 189) (pc' := 217) rfl (hb hby at_189) rfl (feq (by decide : ¬ ((7 : Int32) = (5 : Int32)))).2 (by decide) (by decide) (XS.iloadN X0.here hx rfl (hb hby at_217) rfl kz))) ?_
        show Goes p e below (s₁.setTop (mkF m 218 #[.val (.int p1), .val (.int p2), .val (.int p3), .val (.int (7 : Int32)), .val (.int (1 : Int32)), .val (.int (0 : Int32)), .val (.int (0 : Int32)), .val (.int (1 : Int32)), .val (.int (1 : Int32)), .unset, .unset] [(.int (7 : Int32))])) _
        refine Goes.by (fun _ kz => XS.bipush X0.here hx rfl (hb hby at_218) (XS.icmpYes X0.here hx rfl (pc0 := 220) (pc' := 235) rfl (hb hby at_220) rfl (feq (by decide : ¬ ((7 : Int32) = (6 : Int32)))).2 (by decide) (by decide) (XS.iloadN X0.here hx rfl (hb hby at_235) rfl kz))) ?_
        show Goes p e below (s₁.setTop (mkF m 236 #[.val (.int p1), .val (.int p2), .val (.int p3), .val (.int (7 : Int32)), .val (.int (1 : Int32)), .val (.int (0 : Int32)), .val (.int (0 : Int32)), .val (.int (1 : Int32)), .val (.int (1 : Int32)), .unset, .unset] [(.int (7 : Int32))])) _
        refine Goes.by (fun _ kz => XS.bipush X0.here hx rfl (hb hby at_236) (XS.icmpNo X0.here hx rfl (hb hby at_238) rfl (teq (by decide : (7 : Int32) = (7 : Int32))).2 kz)) ?_
        obtain ⟨T76, X76, e76, st76⟩ := getS2 X0 hx hZ hown (host := "") (Or.inl (hw _ (List.mem_of_getElem? (i := 23) rfl))) Via.refl e0 P.2.2.2.2.2.2.2.2.2.2.1 (g := (mkF m 241 #[.val (.int p1), .val (.int p2), .val (.int p3), .val (.int (7 : Int32)), .val (.int (1 : Int32)), .val (.int (0 : Int32)), .val (.int (0 : Int32)), .val (.int (1 : Int32)), .val (.int (1 : Int32)), .unset, .unset] [])) rfl (hb hby at_241)
        refine Goes.by st76 ?_
        refine Goes.by (fun _ kz => XS.astore X76.here hx rfl (hb hby at_244) rfl rfl (l' := #[.val (.int p1), .val (.int p2), .val (.int p3), .val (.int (7 : Int32)), .val (.int (1 : Int32)), .val (.int (0 : Int32)), .val (.int (0 : Int32)), .val (.int (1 : Int32)), .val (.int (1 : Int32)), .val (.ref (w 5)), .unset]) rfl (XS.iload X76.here hx rfl (hb hby at_246) rfl (XS.ifNo X76.here hx rfl (hb hby at_248) rfl ((if0 _ _).trans (feq (by decide : ¬ ((1 : Int32) = (0 : Int32)))).1) kz))) ?_
        show Goes p e below (T76.setTop (mkF m 251 #[.val (.int p1), .val (.int p2), .val (.int p3), .val (.int (7 : Int32)), .val (.int (1 : Int32)), .val (.int (0 : Int32)), .val (.int (0 : Int32)), .val (.int (1 : Int32)), .val (.int (1 : Int32)), .val (.ref (w 5)), .unset] [])) _
        refine Goes.by (fun _ kz => XS.iload X76.here hx rfl (hb hby at_251) rfl (XS.ifNo X76.here hx rfl (hb hby at_253) rfl ((if0 _ _).trans (teq (by decide : (0 : Int32) = (0 : Int32))).2) (XS.iconst X76.here hx rfl (hb hby at_256) kz))) ?_
        show Goes p e below (T76.setTop (mkF m 257 #[.val (.int p1), .val (.int p2), .val (.int p3), .val (.int (7 : Int32)), .val (.int (1 : Int32)), .val (.int (0 : Int32)), .val (.int (0 : Int32)), .val (.int (1 : Int32)), .val (.int (1 : Int32)), .val (.ref (w 5)), .unset] [(.int (1 : Int32))])) _
        refine Goes.by (fun _ kz => XS.goto X76.here hx rfl (pc0 := 257) (pc' := 261) rfl (hb hby at_257) (by decide) (by decide) (XS.istore X76.here hx rfl (hb hby at_261) rfl (l' := #[.val (.int p1), .val (.int p2), .val (.int p3), .val (.int (7 : Int32)), .val (.int (1 : Int32)), .val (.int (0 : Int32)), .val (.int (0 : Int32)), .val (.int (1 : Int32)), .val (.int (1 : Int32)), .val (.ref (w 5)), .val (.int (1 : Int32))]) rfl (XS.goto X76.here hx rfl (pc0 := 263) (pc' := 275) rfl (hb hby at_263) (by decide) (by decide) kz))) ?_
        show Goes p e below (T76.setTop (mkF m 275 #[.val (.int p1), .val (.int p2), .val (.int p3), .val (.int (7 : Int32)), .val (.int (1 : Int32)), .val (.int (0 : Int32)), .val (.int (0 : Int32)), .val (.int (1 : Int32)), .val (.int (1 : Int32)), .val (.ref (w 5)), .val (.int (1 : Int32))] [])) _
        refine Goes.by (fun _ kz => XS.aload X76.here hx rfl (hb hby at_275) rfl rfl (XS.iload X76.here hx rfl (hb hby at_277) rfl (XS.iload X76.here hx rfl (hb hby at_279) rfl kz))) ?_
        obtain ⟨cq78, kq78, q78a, q78b, q78c⟩ := isOf hZ e76 P.2.2.2.2.2.2.2.2.2.2.2.1
        obtain ⟨_, _, ⟨T78, L78, k78, n78⟩, -, X78, ⟨Lc78, hQ78, l78, y78, z78⟩, st78⟩ := X76.virtualBack hx (y := (⟨"com/example/entail/entail/model/Scope", "reaches", "(IZ)Z"⟩ : MethodName)) (z := (⟨"com/example/entail/entail/model/Scope", "reaches", "(IZ)Z"⟩ : MethodName)) hown (mvT hZ (hw _ (List.mem_of_getElem? (i := 4) rfl))) (mvT hZ (hw _ (List.mem_of_getElem? (i := 5) rfl))) (notFace_of_selects (args := #[]) (mvT hZ (hw _ (List.mem_of_getElem? (i := 7) rfl)))) (mvT hZ (hw _ (List.mem_of_getElem? (i := 7) rfl))) (mvT hZ (hw _ (List.mem_of_getElem? (i := 6) rfl))) (by decide) (backOf (W := 0) (r1_25 l Z a0 hw [] h0 n0 Z0 w P) hZ (hw _ (List.mem_of_getElem? (i := 8) rfl)) (hw _ (List.mem_of_getElem? (i := 2) rfl)) (by decide) (by decide)) q78a q78c (g := (mkF m 281 #[.val (.int p1), .val (.int p2), .val (.int p3), .val (.int (7 : Int32)), .val (.int (1 : Int32)), .val (.int (0 : Int32)), .val (.int (0 : Int32)), .val (.int (1 : Int32)), .val (.int (1 : Int32)), .val (.ref (w 5)), .val (.int (1 : Int32))] [(.int (0 : Int32)), (.int (1 : Int32)), (.ref (w 5))])) rfl (by rw [hml]; rfl) (Steps.refl _) (argsL := [(.int (1 : Int32)), (.int (0 : Int32))]) (rest := []) (lenOf pd0 rfl) rfl (by show 2 * 0 + _ ≤ _; exact Nat.le_of_eq rfl) (hb hby at_281) (fun _ _ => ⟨rfl, e76, (by decide : 0 + 0 ≤ _), (by decide : 0 + 0 ≤ _)⟩)
        dsimp only [Pt.U, Pt.locs, Pt.cells, Pt.slots] at X78 l78 y78 z78 st78 hQ78
        subst l78 y78 z78
        obtain ⟨rfl, Nq78, e78⟩ := hQ78
        have N78 := Fr.app N0 Nq78
        refine Goes.tr st78 ?_
        refine Goes.by (fun _ kz => XS.iload X78.here hx rfl (hb hby at_284) rfl (XS.icmpNo X78.here hx rfl (hb hby at_286) rfl (teq (by decide : (1 : Int32) = (1 : Int32))).2 (XS.iconst X78.here hx rfl (hb hby at_289) kz))) ?_
        show Goes p e below (T78.setTop (mkF m 290 #[.val (.int p1), .val (.int p2), .val (.int p3), .val (.int (7 : Int32)), .val (.int (1 : Int32)), .val (.int (0 : Int32)), .val (.int (0 : Int32)), .val (.int (1 : Int32)), .val (.int (1 : Int32)), .val (.ref (w 5)), .val (.int (1 : Int32))] [(.int (1 : Int32))])) _
        refine Goes.by (fun _ kz => XS.goto X78.here hx rfl (pc0 := 290) (pc' := 294) rfl (hb hby at_290) (by decide) (by decide) kz) ?_
        show Goes p e below (T78.setTop (mkF m 294 #[.val (.int p1), .val (.int p2), .val (.int p3), .val (.int (7 : Int32)), .val (.int (1 : Int32)), .val (.int (0 : Int32)), .val (.int (0 : Int32)), .val (.int (1 : Int32)), .val (.int (1 : Int32)), .val (.ref (w 5)), .val (.int (1 : Int32))] [(.int (1 : Int32))])) _
        obtain ⟨fs, hr, hrun, hended, hW, hsame⟩ := X78.leave (v := some (.int (1 : Int32))) (fun h => by rw [Bd.returns] at h; cases h)
        exact ⟨_, _, retN X78 hx (t := .boolean) Bd.returns (by simp) (hb hby at_294) hr, hrun, hended, _, _, rfl, ⟨rfl, N78⟩, ⟨_, rfl⟩, hW, hsame.mono (by decide) (by decide)⟩
      · show Goes p e below (s₁.setTop (mkF m 65 #[.val (.int p1), .val (.int p2), .val (.int p3), .val (.int (8 : Int32)), .val (.int (1 : Int32)), .val (.int (0 : Int32)), .val (.int (0 : Int32)), .val (.int (1 : Int32)), .val (.int (1 : Int32)), .unset, .unset] [])) _
        refine Goes.by (fun _ kz => XS.iloadN X0.here hx rfl (hb hby at_65) rfl (XS.ifYes X0.here hx rfl (pc0 := 66) (pc' := 80) rfl (hb hby at_66) rfl ((if0 _ _).trans (feq (by decide : ¬ ((8 : Int32) = (0 : Int32)))).2) (by decide) (by decide) (XS.iloadN X0.here hx rfl (hb hby at_80) rfl kz))) ?_
        show Goes p e below (s₁.setTop (mkF m 81 #[.val (.int p1), .val (.int p2), .val (.int p3), .val (.int (8 : Int32)), .val (.int (1 : Int32)), .val (.int (0 : Int32)), .val (.int (0 : Int32)), .val (.int (1 : Int32)), .val (.int (1 : Int32)), .unset, .unset] [(.int (8 : Int32))])) _
        refine Goes.by (fun _ kz => XS.iconst X0.here hx rfl (hb hby at_81) (XS.icmpYes X0.here hx rfl (pc0 := 82) (pc' := 110) rfl (hb hby at_82) rfl (feq (by decide : ¬ ((8 : Int32) = (1 : Int32)))).2 (by decide) (by decide) (XS.iloadN X0.here hx rfl (hb hby at_110) rfl kz))) ?_
        show Goes p e below (s₁.setTop (mkF m 111 #[.val (.int p1), .val (.int p2), .val (.int p3), .val (.int (8 : Int32)), .val (.int (1 : Int32)), .val (.int (0 : Int32)), .val (.int (0 : Int32)), .val (.int (1 : Int32)), .val (.int (1 : Int32)), .unset, .unset] [(.int (8 : Int32))])) _
        refine Goes.by (fun _ kz => XS.iconst X0.here hx rfl (hb hby at_111) (XS.icmpYes X0.here hx rfl (pc0 := 112) (pc' := 140) rfl (hb hby at_112) rfl (feq (by decide : ¬ ((8 : Int32) = (2 : Int32)))).2 (by decide) (by decide) (XS.iloadN X0.here hx rfl (hb hby at_140) rfl kz))) ?_
        show Goes p e below (s₁.setTop (mkF m 141 #[.val (.int p1), .val (.int p2), .val (.int p3), .val (.int (8 : Int32)), .val (.int (1 : Int32)), .val (.int (0 : Int32)), .val (.int (0 : Int32)), .val (.int (1 : Int32)), .val (.int (1 : Int32)), .unset, .unset] [(.int (8 : Int32))])) _
        refine Goes.by (fun _ kz => XS.iconst X0.here hx rfl (hb hby at_141) (XS.icmpYes X0.here hx rfl (pc0 := 142) (pc' := 157) rfl (hb hby at_142) rfl (feq (by decide : ¬ ((8 : Int32) = (3 : Int32)))).2 (by decide) (by decide) (XS.iloadN X0.here hx rfl (hb hby at_157) rfl kz))) ?_
        show Goes p e below (s₁.setTop (mkF m 158 #[.val (.int p1), .val (.int p2), .val (.int p3), .val (.int (8 : Int32)), .val (.int (1 : Int32)), .val (.int (0 : Int32)), .val (.int (0 : Int32)), .val (.int (1 : Int32)), .val (.int (1 : Int32)), .unset, .unset] [(.int (8 : Int32))])) _
        refine Goes.by (fun _ kz => XS.iconst X0.here hx rfl (hb hby at_158) (XS.icmpYes X0.here hx rfl (pc0 := 159) (pc' := 187) rfl (hb hby at_159) rfl (feq (by decide : ¬ ((8 : Int32) = (4 : Int32)))).2 (by decide) (by decide) (XS.iloadN X0.here hx rfl (hb hby at_187) rfl kz))) ?_
        show Goes p e below (s₁.setTop (mkF m 188 #[.val (.int p1), .val (.int p2), .val (.int p3), .val (.int (8 : Int32)), .val (.int (1 : Int32)), .val (.int (0 : Int32)), .val (.int (0 : Int32)), .val (.int (1 : Int32)), .val (.int (1 : Int32)), .unset, .unset] [(.int (8 : Int32))])) _
        refine Goes.by (fun _ kz => XS.iconst X0.here hx rfl (hb hby at_188) (XS.icmpYes X0.here hx rfl (pc0 := 189) (pc' := 217) rfl (hb hby at_189) rfl (feq (by decide : ¬ ((8 : Int32) = (5 : Int32)))).2 (by decide) (by decide) (XS.iloadN X0.here hx rfl (hb hby at_217) rfl kz))) ?_
        show Goes p e below (s₁.setTop (mkF m 218 #[.val (.int p1), .val (.int p2), .val (.int p3), .val (.int (8 : Int32)), .val (.int (1 : Int32)), .val (.int (0 : Int32)), .val (.int (0 : Int32)), .val (.int (1 : Int32)), .val (.int (1 : Int32)), .unset, .unset] [(.int (8 : Int32))])) _
        refine Goes.by (fun _ kz => XS.bipush X0.here hx rfl (hb hby at_218) (XS.icmpYes X0.here hx rfl (pc0 := 220) (pc' := 235) rfl (hb hby at_220) rfl (feq (by decide : ¬ ((8 : Int32) = (6 : Int32)))).2 (by decide) (by decide) (XS.iloadN X0.here hx rfl (hb hby at_235) rfl kz))) ?_
        show Goes p e below (s₁.setTop (mkF m 236 #[.val (.int p1), .val (.int p2), .val (.int p3), .val (.int (8 : Int32)), .val (.int (1 : Int32)), .val (.int (0 : Int32)), .val (.int (0 : Int32)), .val (.int (1 : Int32)), .val (.int (1 : Int32)), .unset, .unset] [(.int (8 : Int32))])) _
        refine Goes.by (fun _ kz => XS.bipush X0.here hx rfl (hb hby at_236) (XS.icmpYes X0.here hx rfl (pc0 := 238) (pc' := 266) rfl (hb hby at_238) rfl (feq (by decide : ¬ ((8 : Int32) = (7 : Int32)))).2 (by decide) (by decide) kz)) ?_
        obtain ⟨T79, X79, e79, st79⟩ := getS2 X0 hx hZ hown (host := "") (Or.inl (hw _ (List.mem_of_getElem? (i := 17) rfl))) Via.refl e0 P.2.2.2.2.2.2.1 (g := (mkF m 266 #[.val (.int p1), .val (.int p2), .val (.int p3), .val (.int (8 : Int32)), .val (.int (1 : Int32)), .val (.int (0 : Int32)), .val (.int (0 : Int32)), .val (.int (1 : Int32)), .val (.int (1 : Int32)), .unset, .unset] [])) rfl (hb hby at_266)
        refine Goes.by st79 ?_
        refine Goes.by (fun _ kz => XS.astore X79.here hx rfl (hb hby at_269) rfl rfl (l' := #[.val (.int p1), .val (.int p2), .val (.int p3), .val (.int (8 : Int32)), .val (.int (1 : Int32)), .val (.int (0 : Int32)), .val (.int (0 : Int32)), .val (.int (1 : Int32)), .val (.int (1 : Int32)), .val (.ref (w 3)), .unset]) rfl (XS.iload X79.here hx rfl (hb hby at_271) rfl (XS.istore X79.here hx rfl (hb hby at_273) rfl (l' := #[.val (.int p1), .val (.int p2), .val (.int p3), .val (.int (8 : Int32)), .val (.int (1 : Int32)), .val (.int (0 : Int32)), .val (.int (0 : Int32)), .val (.int (1 : Int32)), .val (.int (1 : Int32)), .val (.ref (w 3)), .val (.int (0 : Int32))]) rfl kz))) ?_
        show Goes p e below (T79.setTop (mkF m 275 #[.val (.int p1), .val (.int p2), .val (.int p3), .val (.int (8 : Int32)), .val (.int (1 : Int32)), .val (.int (0 : Int32)), .val (.int (0 : Int32)), .val (.int (1 : Int32)), .val (.int (1 : Int32)), .val (.ref (w 3)), .val (.int (0 : Int32))] [])) _
        refine Goes.by (fun _ kz => XS.aload X79.here hx rfl (hb hby at_275) rfl rfl (XS.iload X79.here hx rfl (hb hby at_277) rfl (XS.iload X79.here hx rfl (hb hby at_279) rfl kz))) ?_
        obtain ⟨cq81, kq81, q81a, q81b, q81c⟩ := isOf hZ e79 P.2.2.2.2.2.2.2.1
        obtain ⟨_, _, ⟨T81, L81, k81, n81⟩, -, X81, ⟨Lc81, hQ81, l81, y81, z81⟩, st81⟩ := X79.virtualBack hx (y := (⟨"com/example/entail/entail/model/Scope", "reaches", "(IZ)Z"⟩ : MethodName)) (z := (⟨"com/example/entail/entail/model/Scope", "reaches", "(IZ)Z"⟩ : MethodName)) hown (mvT hZ (hw _ (List.mem_of_getElem? (i := 4) rfl))) (mvT hZ (hw _ (List.mem_of_getElem? (i := 5) rfl))) (notFace_of_selects (args := #[]) (mvT hZ (hw _ (List.mem_of_getElem? (i := 7) rfl)))) (mvT hZ (hw _ (List.mem_of_getElem? (i := 7) rfl))) (mvT hZ (hw _ (List.mem_of_getElem? (i := 6) rfl))) (by decide) (backOf (W := 0) (r1_26 l Z a0 hw [] h0 n0 Z0 w P) hZ (hw _ (List.mem_of_getElem? (i := 8) rfl)) (hw _ (List.mem_of_getElem? (i := 2) rfl)) (by decide) (by decide)) q81a q81c (g := (mkF m 281 #[.val (.int p1), .val (.int p2), .val (.int p3), .val (.int (8 : Int32)), .val (.int (1 : Int32)), .val (.int (0 : Int32)), .val (.int (0 : Int32)), .val (.int (1 : Int32)), .val (.int (1 : Int32)), .val (.ref (w 3)), .val (.int (0 : Int32))] [(.int (0 : Int32)), (.int (1 : Int32)), (.ref (w 3))])) rfl (by rw [hml]; rfl) (Steps.refl _) (argsL := [(.int (1 : Int32)), (.int (0 : Int32))]) (rest := []) (lenOf pd0 rfl) rfl (by show 2 * 0 + _ ≤ _; exact Nat.le_of_eq rfl) (hb hby at_281) (fun _ _ => ⟨rfl, e79, (by decide : 0 + 0 ≤ _), (by decide : 0 + 0 ≤ _)⟩)
        dsimp only [Pt.U, Pt.locs, Pt.cells, Pt.slots] at X81 l81 y81 z81 st81 hQ81
        subst l81 y81 z81
        obtain ⟨rfl, Nq81, e81⟩ := hQ81
        have N81 := Fr.app N0 Nq81
        refine Goes.tr st81 ?_
        refine Goes.by (fun _ kz => XS.iload X81.here hx rfl (hb hby at_284) rfl (XS.icmpNo X81.here hx rfl (hb hby at_286) rfl (teq (by decide : (0 : Int32) = (0 : Int32))).2 (XS.iconst X81.here hx rfl (hb hby at_289) kz))) ?_
        show Goes p e below (T81.setTop (mkF m 290 #[.val (.int p1), .val (.int p2), .val (.int p3), .val (.int (8 : Int32)), .val (.int (1 : Int32)), .val (.int (0 : Int32)), .val (.int (0 : Int32)), .val (.int (1 : Int32)), .val (.int (1 : Int32)), .val (.ref (w 3)), .val (.int (0 : Int32))] [(.int (1 : Int32))])) _
        refine Goes.by (fun _ kz => XS.goto X81.here hx rfl (pc0 := 290) (pc' := 294) rfl (hb hby at_290) (by decide) (by decide) kz) ?_
        show Goes p e below (T81.setTop (mkF m 294 #[.val (.int p1), .val (.int p2), .val (.int p3), .val (.int (8 : Int32)), .val (.int (1 : Int32)), .val (.int (0 : Int32)), .val (.int (0 : Int32)), .val (.int (1 : Int32)), .val (.int (1 : Int32)), .val (.ref (w 3)), .val (.int (0 : Int32))] [(.int (1 : Int32))])) _
        obtain ⟨fs, hr, hrun, hended, hW, hsame⟩ := X81.leave (v := some (.int (1 : Int32))) (fun h => by rw [Bd.returns] at h; cases h)
        exact ⟨_, _, retN X81 hx (t := .boolean) Bd.returns (by simp) (hb hby at_294) hr, hrun, hended, _, _, rfl, ⟨rfl, N81⟩, ⟨_, rfl⟩, hW, hsame.mono (by decide) (by decide)⟩
    · rw [hff]
      show Goes p e below (s₁.setTop (mkF m 17 #[.val (.int p1), .val (.int p2), .val (.int p3), .val (.int ((p1 &&& (2147483647 : Int32)) % (9 : Int32))), .val (.int (1 : Int32)), .unset, .unset, .unset, .unset, .unset, .unset] [(.int (1 : Int32))])) _
      refine Goes.by (fun _ kz => XS.ifNo X0.here hx rfl (hb hby at_17) rfl ((if0 _ _).trans (feq (by decide : ¬ ((1 : Int32) = (0 : Int32)))).1) (XS.iconst X0.here hx rfl (hb hby at_20) (XS.goto X0.here hx rfl (pc0 := 21) (pc' := 25) rfl (hb hby at_21) (by decide) (by decide) kz))) ?_
      show Goes p e below (s₁.setTop (mkF m 25 #[.val (.int p1), .val (.int p2), .val (.int p3), .val (.int ((p1 &&& (2147483647 : Int32)) % (9 : Int32))), .val (.int (1 : Int32)), .unset, .unset, .unset, .unset, .unset, .unset] [(.int (1 : Int32))])) _
      refine Goes.by (fun _ kz => XS.istore X0.here hx rfl (hb hby at_25) rfl (l' := #[.val (.int p1), .val (.int p2), .val (.int p3), .val (.int ((p1 &&& (2147483647 : Int32)) % (9 : Int32))), .val (.int (1 : Int32)), .val (.int (1 : Int32)), .unset, .unset, .unset, .unset, .unset]) rfl (XS.iload X0.here hx rfl (hb hby at_27) rfl (XS.ifYes X0.here hx rfl (pc0 := 29) (pc' := 36) rfl (hb hby at_29) rfl ((if0 _ _).trans (feq (by decide : ¬ ((1 : Int32) = (0 : Int32)))).2) (by decide) (by decide) kz))) ?_
      show Goes p e below (s₁.setTop (mkF m 36 #[.val (.int p1), .val (.int p2), .val (.int p3), .val (.int ((p1 &&& (2147483647 : Int32)) % (9 : Int32))), .val (.int (1 : Int32)), .val (.int (1 : Int32)), .unset, .unset, .unset, .unset, .unset] [])) _
      refine Goes.by (fun _ kz => XS.iconst X0.here hx rfl (hb hby at_36) (XS.istore X0.here hx rfl (hb hby at_37) rfl (l' := #[.val (.int p1), .val (.int p2), .val (.int p3), .val (.int ((p1 &&& (2147483647 : Int32)) % (9 : Int32))), .val (.int (1 : Int32)), .val (.int (1 : Int32)), .val (.int (0 : Int32)), .unset, .unset, .unset, .unset]) rfl (XS.iload X0.here hx rfl (hb hby at_39) rfl kz))) ?_
      show Goes p e below (s₁.setTop (mkF m 41 #[.val (.int p1), .val (.int p2), .val (.int p3), .val (.int ((p1 &&& (2147483647 : Int32)) % (9 : Int32))), .val (.int (1 : Int32)), .val (.int (1 : Int32)), .val (.int (0 : Int32)), .unset, .unset, .unset, .unset] [(.int (1 : Int32))])) _
      refine Goes.by (fun _ kz => XS.iconst X0.here hx rfl (hb hby at_41) (XS.icmpNo X0.here hx rfl (hb hby at_42) rfl (teq (by decide : (1 : Int32) = (1 : Int32))).2 (XS.iconst X0.here hx rfl (hb hby at_45) kz))) ?_
      show Goes p e below (s₁.setTop (mkF m 46 #[.val (.int p1), .val (.int p2), .val (.int p3), .val (.int ((p1 &&& (2147483647 : Int32)) % (9 : Int32))), .val (.int (1 : Int32)), .val (.int (1 : Int32)), .val (.int (0 : Int32)), .unset, .unset, .unset, .unset] [(.int (1 : Int32))])) _
      refine Goes.by (fun _ kz => XS.goto X0.here hx rfl (pc0 := 46) (pc' := 50) rfl (hb hby at_46) (by decide) (by decide) (XS.istore X0.here hx rfl (hb hby at_50) rfl (l' := #[.val (.int p1), .val (.int p2), .val (.int p3), .val (.int ((p1 &&& (2147483647 : Int32)) % (9 : Int32))), .val (.int (1 : Int32)), .val (.int (1 : Int32)), .val (.int (0 : Int32)), .val (.int (1 : Int32)), .unset, .unset, .unset]) rfl (XS.iload X0.here hx rfl (hb hby at_52) rfl kz))) ?_
      show Goes p e below (s₁.setTop (mkF m 54 #[.val (.int p1), .val (.int p2), .val (.int p3), .val (.int ((p1 &&& (2147483647 : Int32)) % (9 : Int32))), .val (.int (1 : Int32)), .val (.int (1 : Int32)), .val (.int (0 : Int32)), .val (.int (1 : Int32)), .unset, .unset, .unset] [(.int (1 : Int32))])) _
      refine Goes.by (fun _ kz => XS.iconst X0.here hx rfl (hb hby at_54) (XS.icmpNo X0.here hx rfl (hb hby at_55) rfl (flt (by decide : ¬ ((1 : Int32) < (1 : Int32)))).1 (XS.iconst X0.here hx rfl (hb hby at_58) kz))) ?_
      show Goes p e below (s₁.setTop (mkF m 59 #[.val (.int p1), .val (.int p2), .val (.int p3), .val (.int ((p1 &&& (2147483647 : Int32)) % (9 : Int32))), .val (.int (1 : Int32)), .val (.int (1 : Int32)), .val (.int (0 : Int32)), .val (.int (1 : Int32)), .unset, .unset, .unset] [(.int (1 : Int32))])) _
      refine Goes.by (fun _ kz => XS.goto X0.here hx rfl (pc0 := 59) (pc' := 63) rfl (hb hby at_59) (by decide) (by decide) (XS.istore X0.here hx rfl (hb hby at_63) rfl (l' := #[.val (.int p1), .val (.int p2), .val (.int p3), .val (.int ((p1 &&& (2147483647 : Int32)) % (9 : Int32))), .val (.int (1 : Int32)), .val (.int (1 : Int32)), .val (.int (0 : Int32)), .val (.int (1 : Int32)), .val (.int (1 : Int32)), .unset, .unset]) rfl kz)) ?_
      show Goes p e below (s₁.setTop (mkF m 65 #[.val (.int p1), .val (.int p2), .val (.int p3), .val (.int ((p1 &&& (2147483647 : Int32)) % (9 : Int32))), .val (.int (1 : Int32)), .val (.int (1 : Int32)), .val (.int (0 : Int32)), .val (.int (1 : Int32)), .val (.int (1 : Int32)), .unset, .unset] [])) _
      have hsi := own_split p1
      obtain ⟨i, hi⟩ : ∃ z, z = ((p1 &&& (2147483647 : Int32)) % (9 : Int32)) := ⟨_, rfl⟩
      rw [← hi] at hsi ⊢
      rcases hsi with rfl | rfl | rfl | rfl | rfl | rfl | rfl | rfl | rfl
      · show Goes p e below (s₁.setTop (mkF m 65 #[.val (.int p1), .val (.int p2), .val (.int p3), .val (.int (0 : Int32)), .val (.int (1 : Int32)), .val (.int (1 : Int32)), .val (.int (0 : Int32)), .val (.int (1 : Int32)), .val (.int (1 : Int32)), .unset, .unset] [])) _
        refine Goes.by (fun _ kz => XS.iloadN X0.here hx rfl (hb hby at_65) rfl (XS.ifNo X0.here hx rfl (hb hby at_66) rfl ((if0 _ _).trans (teq (by decide : (0 : Int32) = (0 : Int32))).2) kz)) ?_
        obtain ⟨T82, X82, e82, st82⟩ := getS2 X0 hx hZ hown (host := "") (Or.inl (hw _ (List.mem_of_getElem? (i := 1) rfl))) Via.refl e0 P.1 (g := (mkF m 69 #[.val (.int p1), .val (.int p2), .val (.int p3), .val (.int (0 : Int32)), .val (.int (1 : Int32)), .val (.int (1 : Int32)), .val (.int (0 : Int32)), .val (.int (1 : Int32)), .val (.int (1 : Int32)), .unset, .unset] [])) rfl (hb hby at_69)
        refine Goes.by st82 ?_
        refine Goes.by (fun _ kz => XS.astore X82.here hx rfl (hb hby at_72) rfl rfl (l' := #[.val (.int p1), .val (.int p2), .val (.int p3), .val (.int (0 : Int32)), .val (.int (1 : Int32)), .val (.int (1 : Int32)), .val (.int (0 : Int32)), .val (.int (1 : Int32)), .val (.int (1 : Int32)), .val (.ref (w 0)), .unset]) rfl (XS.iconst X82.here hx rfl (hb hby at_74) (XS.istore X82.here hx rfl (hb hby at_75) rfl (l' := #[.val (.int p1), .val (.int p2), .val (.int p3), .val (.int (0 : Int32)), .val (.int (1 : Int32)), .val (.int (1 : Int32)), .val (.int (0 : Int32)), .val (.int (1 : Int32)), .val (.int (1 : Int32)), .val (.ref (w 0)), .val (.int (1 : Int32))]) rfl kz))) ?_
        show Goes p e below (T82.setTop (mkF m 77 #[.val (.int p1), .val (.int p2), .val (.int p3), .val (.int (0 : Int32)), .val (.int (1 : Int32)), .val (.int (1 : Int32)), .val (.int (0 : Int32)), .val (.int (1 : Int32)), .val (.int (1 : Int32)), .val (.ref (w 0)), .val (.int (1 : Int32))] [])) _
        refine Goes.by (fun _ kz => XS.goto X82.here hx rfl (pc0 := 77) (pc' := 275) rfl (hb hby at_77) (by decide) (by decide) (XS.aload X82.here hx rfl (hb hby at_275) rfl rfl (XS.iload X82.here hx rfl (hb hby at_277) rfl kz))) ?_
        show Goes p e below (T82.setTop (mkF m 279 #[.val (.int p1), .val (.int p2), .val (.int p3), .val (.int (0 : Int32)), .val (.int (1 : Int32)), .val (.int (1 : Int32)), .val (.int (0 : Int32)), .val (.int (1 : Int32)), .val (.int (1 : Int32)), .val (.ref (w 0)), .val (.int (1 : Int32))] [(.int (1 : Int32)), (.ref (w 0))])) _
        refine Goes.by (fun _ kz => XS.iload X82.here hx rfl (hb hby at_279) rfl kz) ?_
        obtain ⟨cq84, kq84, q84a, q84b, q84c⟩ := isOf hZ e82 P.2.1
        obtain ⟨_, _, ⟨T84, L84, k84, n84⟩, -, X84, ⟨Lc84, hQ84, l84, y84, z84⟩, st84⟩ := X82.virtualBack hx (y := (⟨"com/example/entail/entail/model/Scope", "reaches", "(IZ)Z"⟩ : MethodName)) (z := (⟨"com/example/entail/entail/model/Scope", "reaches", "(IZ)Z"⟩ : MethodName)) hown (mvT hZ (hw _ (List.mem_of_getElem? (i := 4) rfl))) (mvT hZ (hw _ (List.mem_of_getElem? (i := 5) rfl))) (notFace_of_selects (args := #[]) (mvT hZ (hw _ (List.mem_of_getElem? (i := 7) rfl)))) (mvT hZ (hw _ (List.mem_of_getElem? (i := 7) rfl))) (mvT hZ (hw _ (List.mem_of_getElem? (i := 6) rfl))) (by decide) (backOf (W := 0) (r1_27 l Z a0 hw [] h0 n0 Z0 w P) hZ (hw _ (List.mem_of_getElem? (i := 8) rfl)) (hw _ (List.mem_of_getElem? (i := 2) rfl)) (by decide) (by decide)) q84a q84c (g := (mkF m 281 #[.val (.int p1), .val (.int p2), .val (.int p3), .val (.int (0 : Int32)), .val (.int (1 : Int32)), .val (.int (1 : Int32)), .val (.int (0 : Int32)), .val (.int (1 : Int32)), .val (.int (1 : Int32)), .val (.ref (w 0)), .val (.int (1 : Int32))] [(.int (1 : Int32)), (.int (1 : Int32)), (.ref (w 0))])) rfl (by rw [hml]; rfl) (Steps.refl _) (argsL := [(.int (1 : Int32)), (.int (1 : Int32))]) (rest := []) (lenOf pd0 rfl) rfl (by show 2 * 0 + _ ≤ _; exact Nat.le_of_eq rfl) (hb hby at_281) (fun _ _ => ⟨rfl, e82, (by decide : 0 + 0 ≤ _), (by decide : 0 + 0 ≤ _)⟩)
        dsimp only [Pt.U, Pt.locs, Pt.cells, Pt.slots] at X84 l84 y84 z84 st84 hQ84
        subst l84 y84 z84
        obtain ⟨rfl, Nq84, e84⟩ := hQ84
        have N84 := Fr.app N0 Nq84
        refine Goes.tr st84 ?_
        refine Goes.by (fun _ kz => XS.iload X84.here hx rfl (hb hby at_284) rfl (XS.icmpNo X84.here hx rfl (hb hby at_286) rfl (teq (by decide : (1 : Int32) = (1 : Int32))).2 (XS.iconst X84.here hx rfl (hb hby at_289) kz))) ?_
        show Goes p e below (T84.setTop (mkF m 290 #[.val (.int p1), .val (.int p2), .val (.int p3), .val (.int (0 : Int32)), .val (.int (1 : Int32)), .val (.int (1 : Int32)), .val (.int (0 : Int32)), .val (.int (1 : Int32)), .val (.int (1 : Int32)), .val (.ref (w 0)), .val (.int (1 : Int32))] [(.int (1 : Int32))])) _
        refine Goes.by (fun _ kz => XS.goto X84.here hx rfl (pc0 := 290) (pc' := 294) rfl (hb hby at_290) (by decide) (by decide) kz) ?_
        show Goes p e below (T84.setTop (mkF m 294 #[.val (.int p1), .val (.int p2), .val (.int p3), .val (.int (0 : Int32)), .val (.int (1 : Int32)), .val (.int (1 : Int32)), .val (.int (0 : Int32)), .val (.int (1 : Int32)), .val (.int (1 : Int32)), .val (.ref (w 0)), .val (.int (1 : Int32))] [(.int (1 : Int32))])) _
        obtain ⟨fs, hr, hrun, hended, hW, hsame⟩ := X84.leave (v := some (.int (1 : Int32))) (fun h => by rw [Bd.returns] at h; cases h)
        exact ⟨_, _, retN X84 hx (t := .boolean) Bd.returns (by simp) (hb hby at_294) hr, hrun, hended, _, _, rfl, ⟨rfl, N84⟩, ⟨_, rfl⟩, hW, hsame.mono (by decide) (by decide)⟩
      · show Goes p e below (s₁.setTop (mkF m 65 #[.val (.int p1), .val (.int p2), .val (.int p3), .val (.int (1 : Int32)), .val (.int (1 : Int32)), .val (.int (1 : Int32)), .val (.int (0 : Int32)), .val (.int (1 : Int32)), .val (.int (1 : Int32)), .unset, .unset] [])) _
        refine Goes.by (fun _ kz => XS.iloadN X0.here hx rfl (hb hby at_65) rfl (XS.ifYes X0.here hx rfl (pc0 := 66) (pc' := 80) rfl (hb hby at_66) rfl ((if0 _ _).trans (feq (by decide : ¬ ((1 : Int32) = (0 : Int32)))).2) (by decide) (by decide) (XS.iloadN X0.here hx rfl (hb hby at_80) rfl kz))) ?_
        show Goes p e below (s₁.setTop (mkF m 81 #[.val (.int p1), .val (.int p2), .val (.int p3), .val (.int (1 : Int32)), .val (.int (1 : Int32)), .val (.int (1 : Int32)), .val (.int (0 : Int32)), .val (.int (1 : Int32)), .val (.int (1 : Int32)), .unset, .unset] [(.int (1 : Int32))])) _
        refine Goes.by (fun _ kz => XS.iconst X0.here hx rfl (hb hby at_81) (XS.icmpNo X0.here hx rfl (hb hby at_82) rfl (teq (by decide : (1 : Int32) = (1 : Int32))).2 kz)) ?_
        obtain ⟨T85, X85, e85, st85⟩ := getS2 X0 hx hZ hown (host := "") (Or.inl (hw _ (List.mem_of_getElem? (i := 11) rfl))) Via.refl e0 P.2.2.1 (g := (mkF m 85 #[.val (.int p1), .val (.int p2), .val (.int p3), .val (.int (1 : Int32)), .val (.int (1 : Int32)), .val (.int (1 : Int32)), .val (.int (0 : Int32)), .val (.int (1 : Int32)), .val (.int (1 : Int32)), .unset, .unset] [])) rfl (hb hby at_85)
        refine Goes.by st85 ?_
        refine Goes.by (fun _ kz => XS.astore X85.here hx rfl (hb hby at_88) rfl rfl (l' := #[.val (.int p1), .val (.int p2), .val (.int p3), .val (.int (1 : Int32)), .val (.int (1 : Int32)), .val (.int (1 : Int32)), .val (.int (0 : Int32)), .val (.int (1 : Int32)), .val (.int (1 : Int32)), .val (.ref (w 1)), .unset]) rfl (XS.iload X85.here hx rfl (hb hby at_90) rfl (XS.ifNo X85.here hx rfl (hb hby at_92) rfl ((if0 _ _).trans (teq (by decide : (0 : Int32) = (0 : Int32))).2) kz))) ?_
        show Goes p e below (T85.setTop (mkF m 95 #[.val (.int p1), .val (.int p2), .val (.int p3), .val (.int (1 : Int32)), .val (.int (1 : Int32)), .val (.int (1 : Int32)), .val (.int (0 : Int32)), .val (.int (1 : Int32)), .val (.int (1 : Int32)), .val (.ref (w 1)), .unset] [])) _
        refine Goes.by (fun _ kz => XS.iload X85.here hx rfl (hb hby at_95) rfl (XS.ifNo X85.here hx rfl (hb hby at_97) rfl ((if0 _ _).trans (feq (by decide : ¬ ((1 : Int32) = (0 : Int32)))).1) (XS.iconst X85.here hx rfl (hb hby at_100) kz))) ?_
        show Goes p e below (T85.setTop (mkF m 101 #[.val (.int p1), .val (.int p2), .val (.int p3), .val (.int (1 : Int32)), .val (.int (1 : Int32)), .val (.int (1 : Int32)), .val (.int (0 : Int32)), .val (.int (1 : Int32)), .val (.int (1 : Int32)), .val (.ref (w 1)), .unset] [(.int (1 : Int32))])) _
        refine Goes.by (fun _ kz => XS.goto X85.here hx rfl (pc0 := 101) (pc' := 105) rfl (hb hby at_101) (by decide) (by decide) (XS.istore X85.here hx rfl (hb hby at_105) rfl (l' := #[.val (.int p1), .val (.int p2), .val (.int p3), .val (.int (1 : Int32)), .val (.int (1 : Int32)), .val (.int (1 : Int32)), .val (.int (0 : Int32)), .val (.int (1 : Int32)), .val (.int (1 : Int32)), .val (.ref (w 1)), .val (.int (1 : Int32))]) rfl (XS.goto X85.here hx rfl (pc0 := 107) (pc' := 275) rfl (hb hby at_107) (by decide) (by decide) kz))) ?_
        show Goes p e below (T85.setTop (mkF m 275 #[.val (.int p1), .val (.int p2), .val (.int p3), .val (.int (1 : Int32)), .val (.int (1 : Int32)), .val (.int (1 : Int32)), .val (.int (0 : Int32)), .val (.int (1 : Int32)), .val (.int (1 : Int32)), .val (.ref (w 1)), .val (.int (1 : Int32))] [])) _
        refine Goes.by (fun _ kz => XS.aload X85.here hx rfl (hb hby at_275) rfl rfl (XS.iload X85.here hx rfl (hb hby at_277) rfl (XS.iload X85.here hx rfl (hb hby at_279) rfl kz))) ?_
        obtain ⟨cq87, kq87, q87a, q87b, q87c⟩ := isOf hZ e85 P.2.2.2.1
        obtain ⟨_, _, ⟨T87, L87, k87, n87⟩, -, X87, ⟨Lc87, hQ87, l87, y87, z87⟩, st87⟩ := X85.virtualBack hx (y := (⟨"com/example/entail/entail/model/Scope", "reaches", "(IZ)Z"⟩ : MethodName)) (z := (⟨"com/example/entail/entail/model/Scope", "reaches", "(IZ)Z"⟩ : MethodName)) hown (mvT hZ (hw _ (List.mem_of_getElem? (i := 4) rfl))) (mvT hZ (hw _ (List.mem_of_getElem? (i := 5) rfl))) (notFace_of_selects (args := #[]) (mvT hZ (hw _ (List.mem_of_getElem? (i := 7) rfl)))) (mvT hZ (hw _ (List.mem_of_getElem? (i := 7) rfl))) (mvT hZ (hw _ (List.mem_of_getElem? (i := 6) rfl))) (by decide) (backOf (W := 0) (r1_28 l Z a0 hw [] h0 n0 Z0 w P) hZ (hw _ (List.mem_of_getElem? (i := 8) rfl)) (hw _ (List.mem_of_getElem? (i := 2) rfl)) (by decide) (by decide)) q87a q87c (g := (mkF m 281 #[.val (.int p1), .val (.int p2), .val (.int p3), .val (.int (1 : Int32)), .val (.int (1 : Int32)), .val (.int (1 : Int32)), .val (.int (0 : Int32)), .val (.int (1 : Int32)), .val (.int (1 : Int32)), .val (.ref (w 1)), .val (.int (1 : Int32))] [(.int (1 : Int32)), (.int (1 : Int32)), (.ref (w 1))])) rfl (by rw [hml]; rfl) (Steps.refl _) (argsL := [(.int (1 : Int32)), (.int (1 : Int32))]) (rest := []) (lenOf pd0 rfl) rfl (by show 2 * 0 + _ ≤ _; exact Nat.le_of_eq rfl) (hb hby at_281) (fun _ _ => ⟨rfl, e85, (by decide : 0 + 0 ≤ _), (by decide : 0 + 0 ≤ _)⟩)
        dsimp only [Pt.U, Pt.locs, Pt.cells, Pt.slots] at X87 l87 y87 z87 st87 hQ87
        subst l87 y87 z87
        obtain ⟨rfl, Nq87, e87⟩ := hQ87
        have N87 := Fr.app N0 Nq87
        refine Goes.tr st87 ?_
        refine Goes.by (fun _ kz => XS.iload X87.here hx rfl (hb hby at_284) rfl (XS.icmpNo X87.here hx rfl (hb hby at_286) rfl (teq (by decide : (1 : Int32) = (1 : Int32))).2 (XS.iconst X87.here hx rfl (hb hby at_289) kz))) ?_
        show Goes p e below (T87.setTop (mkF m 290 #[.val (.int p1), .val (.int p2), .val (.int p3), .val (.int (1 : Int32)), .val (.int (1 : Int32)), .val (.int (1 : Int32)), .val (.int (0 : Int32)), .val (.int (1 : Int32)), .val (.int (1 : Int32)), .val (.ref (w 1)), .val (.int (1 : Int32))] [(.int (1 : Int32))])) _
        refine Goes.by (fun _ kz => XS.goto X87.here hx rfl (pc0 := 290) (pc' := 294) rfl (hb hby at_290) (by decide) (by decide) kz) ?_
        show Goes p e below (T87.setTop (mkF m 294 #[.val (.int p1), .val (.int p2), .val (.int p3), .val (.int (1 : Int32)), .val (.int (1 : Int32)), .val (.int (1 : Int32)), .val (.int (0 : Int32)), .val (.int (1 : Int32)), .val (.int (1 : Int32)), .val (.ref (w 1)), .val (.int (1 : Int32))] [(.int (1 : Int32))])) _
        obtain ⟨fs, hr, hrun, hended, hW, hsame⟩ := X87.leave (v := some (.int (1 : Int32))) (fun h => by rw [Bd.returns] at h; cases h)
        exact ⟨_, _, retN X87 hx (t := .boolean) Bd.returns (by simp) (hb hby at_294) hr, hrun, hended, _, _, rfl, ⟨rfl, N87⟩, ⟨_, rfl⟩, hW, hsame.mono (by decide) (by decide)⟩
      · show Goes p e below (s₁.setTop (mkF m 65 #[.val (.int p1), .val (.int p2), .val (.int p3), .val (.int (2 : Int32)), .val (.int (1 : Int32)), .val (.int (1 : Int32)), .val (.int (0 : Int32)), .val (.int (1 : Int32)), .val (.int (1 : Int32)), .unset, .unset] [])) _
        refine Goes.by (fun _ kz => XS.iloadN X0.here hx rfl (hb hby at_65) rfl (XS.ifYes X0.here hx rfl (pc0 := 66) (pc' := 80) rfl (hb hby at_66) rfl ((if0 _ _).trans (feq (by decide : ¬ ((2 : Int32) = (0 : Int32)))).2) (by decide) (by decide) (XS.iloadN X0.here hx rfl (hb hby at_80) rfl kz))) ?_
        show Goes p e below (s₁.setTop (mkF m 81 #[.val (.int p1), .val (.int p2), .val (.int p3), .val (.int (2 : Int32)), .val (.int (1 : Int32)), .val (.int (1 : Int32)), .val (.int (0 : Int32)), .val (.int (1 : Int32)), .val (.int (1 : Int32)), .unset, .unset] [(.int (2 : Int32))])) _
        refine Goes.by (fun _ kz => XS.iconst X0.here hx rfl (hb hby at_81) (XS.icmpYes X0.here hx rfl (pc0 := 82) (pc' := 110) rfl (hb hby at_82) rfl (feq (by decide : ¬ ((2 : Int32) = (1 : Int32)))).2 (by decide) (by decide) (XS.iloadN X0.here hx rfl (hb hby at_110) rfl kz))) ?_
        show Goes p e below (s₁.setTop (mkF m 111 #[.val (.int p1), .val (.int p2), .val (.int p3), .val (.int (2 : Int32)), .val (.int (1 : Int32)), .val (.int (1 : Int32)), .val (.int (0 : Int32)), .val (.int (1 : Int32)), .val (.int (1 : Int32)), .unset, .unset] [(.int (2 : Int32))])) _
        refine Goes.by (fun _ kz => XS.iconst X0.here hx rfl (hb hby at_111) (XS.icmpNo X0.here hx rfl (hb hby at_112) rfl (teq (by decide : (2 : Int32) = (2 : Int32))).2 kz)) ?_
        obtain ⟨T88, X88, e88, st88⟩ := getS2 X0 hx hZ hown (host := "") (Or.inl (hw _ (List.mem_of_getElem? (i := 15) rfl))) Via.refl e0 P.2.2.2.2.1 (g := (mkF m 115 #[.val (.int p1), .val (.int p2), .val (.int p3), .val (.int (2 : Int32)), .val (.int (1 : Int32)), .val (.int (1 : Int32)), .val (.int (0 : Int32)), .val (.int (1 : Int32)), .val (.int (1 : Int32)), .unset, .unset] [])) rfl (hb hby at_115)
        refine Goes.by st88 ?_
        refine Goes.by (fun _ kz => XS.astore X88.here hx rfl (hb hby at_118) rfl rfl (l' := #[.val (.int p1), .val (.int p2), .val (.int p3), .val (.int (2 : Int32)), .val (.int (1 : Int32)), .val (.int (1 : Int32)), .val (.int (0 : Int32)), .val (.int (1 : Int32)), .val (.int (1 : Int32)), .val (.ref (w 2)), .unset]) rfl (XS.iload X88.here hx rfl (hb hby at_120) rfl (XS.ifNo X88.here hx rfl (hb hby at_122) rfl ((if0 _ _).trans (teq (by decide : (0 : Int32) = (0 : Int32))).2) kz))) ?_
        show Goes p e below (T88.setTop (mkF m 125 #[.val (.int p1), .val (.int p2), .val (.int p3), .val (.int (2 : Int32)), .val (.int (1 : Int32)), .val (.int (1 : Int32)), .val (.int (0 : Int32)), .val (.int (1 : Int32)), .val (.int (1 : Int32)), .val (.ref (w 2)), .unset] [])) _
        refine Goes.by (fun _ kz => XS.iload X88.here hx rfl (hb hby at_125) rfl (XS.ifNo X88.here hx rfl (hb hby at_127) rfl ((if0 _ _).trans (feq (by decide : ¬ ((1 : Int32) = (0 : Int32)))).1) (XS.iconst X88.here hx rfl (hb hby at_130) kz))) ?_
        show Goes p e below (T88.setTop (mkF m 131 #[.val (.int p1), .val (.int p2), .val (.int p3), .val (.int (2 : Int32)), .val (.int (1 : Int32)), .val (.int (1 : Int32)), .val (.int (0 : Int32)), .val (.int (1 : Int32)), .val (.int (1 : Int32)), .val (.ref (w 2)), .unset] [(.int (1 : Int32))])) _
        refine Goes.by (fun _ kz => XS.goto X88.here hx rfl (pc0 := 131) (pc' := 135) rfl (hb hby at_131) (by decide) (by decide) (XS.istore X88.here hx rfl (hb hby at_135) rfl (l' := #[.val (.int p1), .val (.int p2), .val (.int p3), .val (.int (2 : Int32)), .val (.int (1 : Int32)), .val (.int (1 : Int32)), .val (.int (0 : Int32)), .val (.int (1 : Int32)), .val (.int (1 : Int32)), .val (.ref (w 2)), .val (.int (1 : Int32))]) rfl (XS.goto X88.here hx rfl (pc0 := 137) (pc' := 275) rfl (hb hby at_137) (by decide) (by decide) kz))) ?_
        show Goes p e below (T88.setTop (mkF m 275 #[.val (.int p1), .val (.int p2), .val (.int p3), .val (.int (2 : Int32)), .val (.int (1 : Int32)), .val (.int (1 : Int32)), .val (.int (0 : Int32)), .val (.int (1 : Int32)), .val (.int (1 : Int32)), .val (.ref (w 2)), .val (.int (1 : Int32))] [])) _
        refine Goes.by (fun _ kz => XS.aload X88.here hx rfl (hb hby at_275) rfl rfl (XS.iload X88.here hx rfl (hb hby at_277) rfl (XS.iload X88.here hx rfl (hb hby at_279) rfl kz))) ?_
        obtain ⟨cq90, kq90, q90a, q90b, q90c⟩ := isOf hZ e88 P.2.2.2.2.2.1
        obtain ⟨_, _, ⟨T90, L90, k90, n90⟩, -, X90, ⟨Lc90, hQ90, l90, y90, z90⟩, st90⟩ := X88.virtualBack hx (y := (⟨"com/example/entail/entail/model/Scope", "reaches", "(IZ)Z"⟩ : MethodName)) (z := (⟨"com/example/entail/entail/model/Scope", "reaches", "(IZ)Z"⟩ : MethodName)) hown (mvT hZ (hw _ (List.mem_of_getElem? (i := 4) rfl))) (mvT hZ (hw _ (List.mem_of_getElem? (i := 5) rfl))) (notFace_of_selects (args := #[]) (mvT hZ (hw _ (List.mem_of_getElem? (i := 7) rfl)))) (mvT hZ (hw _ (List.mem_of_getElem? (i := 7) rfl))) (mvT hZ (hw _ (List.mem_of_getElem? (i := 6) rfl))) (by decide) (backOf (W := 0) (r1_29 l Z a0 hw [] h0 n0 Z0 w P) hZ (hw _ (List.mem_of_getElem? (i := 8) rfl)) (hw _ (List.mem_of_getElem? (i := 2) rfl)) (by decide) (by decide)) q90a q90c (g := (mkF m 281 #[.val (.int p1), .val (.int p2), .val (.int p3), .val (.int (2 : Int32)), .val (.int (1 : Int32)), .val (.int (1 : Int32)), .val (.int (0 : Int32)), .val (.int (1 : Int32)), .val (.int (1 : Int32)), .val (.ref (w 2)), .val (.int (1 : Int32))] [(.int (1 : Int32)), (.int (1 : Int32)), (.ref (w 2))])) rfl (by rw [hml]; rfl) (Steps.refl _) (argsL := [(.int (1 : Int32)), (.int (1 : Int32))]) (rest := []) (lenOf pd0 rfl) rfl (by show 2 * 0 + _ ≤ _; exact Nat.le_of_eq rfl) (hb hby at_281) (fun _ _ => ⟨rfl, e88, (by decide : 0 + 0 ≤ _), (by decide : 0 + 0 ≤ _)⟩)
        dsimp only [Pt.U, Pt.locs, Pt.cells, Pt.slots] at X90 l90 y90 z90 st90 hQ90
        subst l90 y90 z90
        obtain ⟨rfl, Nq90, e90⟩ := hQ90
        have N90 := Fr.app N0 Nq90
        refine Goes.tr st90 ?_
        refine Goes.by (fun _ kz => XS.iload X90.here hx rfl (hb hby at_284) rfl (XS.icmpNo X90.here hx rfl (hb hby at_286) rfl (teq (by decide : (1 : Int32) = (1 : Int32))).2 (XS.iconst X90.here hx rfl (hb hby at_289) kz))) ?_
        show Goes p e below (T90.setTop (mkF m 290 #[.val (.int p1), .val (.int p2), .val (.int p3), .val (.int (2 : Int32)), .val (.int (1 : Int32)), .val (.int (1 : Int32)), .val (.int (0 : Int32)), .val (.int (1 : Int32)), .val (.int (1 : Int32)), .val (.ref (w 2)), .val (.int (1 : Int32))] [(.int (1 : Int32))])) _
        refine Goes.by (fun _ kz => XS.goto X90.here hx rfl (pc0 := 290) (pc' := 294) rfl (hb hby at_290) (by decide) (by decide) kz) ?_
        show Goes p e below (T90.setTop (mkF m 294 #[.val (.int p1), .val (.int p2), .val (.int p3), .val (.int (2 : Int32)), .val (.int (1 : Int32)), .val (.int (1 : Int32)), .val (.int (0 : Int32)), .val (.int (1 : Int32)), .val (.int (1 : Int32)), .val (.ref (w 2)), .val (.int (1 : Int32))] [(.int (1 : Int32))])) _
        obtain ⟨fs, hr, hrun, hended, hW, hsame⟩ := X90.leave (v := some (.int (1 : Int32))) (fun h => by rw [Bd.returns] at h; cases h)
        exact ⟨_, _, retN X90 hx (t := .boolean) Bd.returns (by simp) (hb hby at_294) hr, hrun, hended, _, _, rfl, ⟨rfl, N90⟩, ⟨_, rfl⟩, hW, hsame.mono (by decide) (by decide)⟩
      · show Goes p e below (s₁.setTop (mkF m 65 #[.val (.int p1), .val (.int p2), .val (.int p3), .val (.int (3 : Int32)), .val (.int (1 : Int32)), .val (.int (1 : Int32)), .val (.int (0 : Int32)), .val (.int (1 : Int32)), .val (.int (1 : Int32)), .unset, .unset] [])) _
        refine Goes.by (fun _ kz => XS.iloadN X0.here hx rfl (hb hby at_65) rfl (XS.ifYes X0.here hx rfl (pc0 := 66) (pc' := 80) rfl (hb hby at_66) rfl ((if0 _ _).trans (feq (by decide : ¬ ((3 : Int32) = (0 : Int32)))).2) (by decide) (by decide) (XS.iloadN X0.here hx rfl (hb hby at_80) rfl kz))) ?_
        show Goes p e below (s₁.setTop (mkF m 81 #[.val (.int p1), .val (.int p2), .val (.int p3), .val (.int (3 : Int32)), .val (.int (1 : Int32)), .val (.int (1 : Int32)), .val (.int (0 : Int32)), .val (.int (1 : Int32)), .val (.int (1 : Int32)), .unset, .unset] [(.int (3 : Int32))])) _
        refine Goes.by (fun _ kz => XS.iconst X0.here hx rfl (hb hby at_81) (XS.icmpYes X0.here hx rfl (pc0 := 82) (pc' := 110) rfl (hb hby at_82) rfl (feq (by decide : ¬ ((3 : Int32) = (1 : Int32)))).2 (by decide) (by decide) (XS.iloadN X0.here hx rfl (hb hby at_110) rfl kz))) ?_
        show Goes p e below (s₁.setTop (mkF m 111 #[.val (.int p1), .val (.int p2), .val (.int p3), .val (.int (3 : Int32)), .val (.int (1 : Int32)), .val (.int (1 : Int32)), .val (.int (0 : Int32)), .val (.int (1 : Int32)), .val (.int (1 : Int32)), .unset, .unset] [(.int (3 : Int32))])) _
        refine Goes.by (fun _ kz => XS.iconst X0.here hx rfl (hb hby at_111) (XS.icmpYes X0.here hx rfl (pc0 := 112) (pc' := 140) rfl (hb hby at_112) rfl (feq (by decide : ¬ ((3 : Int32) = (2 : Int32)))).2 (by decide) (by decide) (XS.iloadN X0.here hx rfl (hb hby at_140) rfl kz))) ?_
        show Goes p e below (s₁.setTop (mkF m 141 #[.val (.int p1), .val (.int p2), .val (.int p3), .val (.int (3 : Int32)), .val (.int (1 : Int32)), .val (.int (1 : Int32)), .val (.int (0 : Int32)), .val (.int (1 : Int32)), .val (.int (1 : Int32)), .unset, .unset] [(.int (3 : Int32))])) _
        refine Goes.by (fun _ kz => XS.iconst X0.here hx rfl (hb hby at_141) (XS.icmpNo X0.here hx rfl (hb hby at_142) rfl (teq (by decide : (3 : Int32) = (3 : Int32))).2 kz)) ?_
        obtain ⟨T91, X91, e91, st91⟩ := getS2 X0 hx hZ hown (host := "") (Or.inl (hw _ (List.mem_of_getElem? (i := 25) rfl))) Via.refl e0 P.2.2.2.2.2.2.2.2.2.2.2.2.1 (g := (mkF m 145 #[.val (.int p1), .val (.int p2), .val (.int p3), .val (.int (3 : Int32)), .val (.int (1 : Int32)), .val (.int (1 : Int32)), .val (.int (0 : Int32)), .val (.int (1 : Int32)), .val (.int (1 : Int32)), .unset, .unset] [])) rfl (hb hby at_145)
        refine Goes.by st91 ?_
        refine Goes.by (fun _ kz => XS.astore X91.here hx rfl (hb hby at_148) rfl rfl (l' := #[.val (.int p1), .val (.int p2), .val (.int p3), .val (.int (3 : Int32)), .val (.int (1 : Int32)), .val (.int (1 : Int32)), .val (.int (0 : Int32)), .val (.int (1 : Int32)), .val (.int (1 : Int32)), .val (.ref (w 6)), .unset]) rfl (XS.iload X91.here hx rfl (hb hby at_150) rfl (XS.istore X91.here hx rfl (hb hby at_152) rfl (l' := #[.val (.int p1), .val (.int p2), .val (.int p3), .val (.int (3 : Int32)), .val (.int (1 : Int32)), .val (.int (1 : Int32)), .val (.int (0 : Int32)), .val (.int (1 : Int32)), .val (.int (1 : Int32)), .val (.ref (w 6)), .val (.int (1 : Int32))]) rfl kz))) ?_
        show Goes p e below (T91.setTop (mkF m 154 #[.val (.int p1), .val (.int p2), .val (.int p3), .val (.int (3 : Int32)), .val (.int (1 : Int32)), .val (.int (1 : Int32)), .val (.int (0 : Int32)), .val (.int (1 : Int32)), .val (.int (1 : Int32)), .val (.ref (w 6)), .val (.int (1 : Int32))] [])) _
        refine Goes.by (fun _ kz => XS.goto X91.here hx rfl (pc0 := 154) (pc' := 275) rfl (hb hby at_154) (by decide) (by decide) (XS.aload X91.here hx rfl (hb hby at_275) rfl rfl (XS.iload X91.here hx rfl (hb hby at_277) rfl kz))) ?_
        show Goes p e below (T91.setTop (mkF m 279 #[.val (.int p1), .val (.int p2), .val (.int p3), .val (.int (3 : Int32)), .val (.int (1 : Int32)), .val (.int (1 : Int32)), .val (.int (0 : Int32)), .val (.int (1 : Int32)), .val (.int (1 : Int32)), .val (.ref (w 6)), .val (.int (1 : Int32))] [(.int (1 : Int32)), (.ref (w 6))])) _
        refine Goes.by (fun _ kz => XS.iload X91.here hx rfl (hb hby at_279) rfl kz) ?_
        obtain ⟨cq93, kq93, q93a, q93b, q93c⟩ := isOf hZ e91 P.2.2.2.2.2.2.2.2.2.2.2.2.2.1
        obtain ⟨_, _, ⟨T93, L93, k93, n93⟩, -, X93, ⟨Lc93, hQ93, l93, y93, z93⟩, st93⟩ := X91.virtualBack hx (y := (⟨"com/example/entail/entail/model/Scope", "reaches", "(IZ)Z"⟩ : MethodName)) (z := (⟨"com/example/entail/entail/model/Scope", "reaches", "(IZ)Z"⟩ : MethodName)) hown (mvT hZ (hw _ (List.mem_of_getElem? (i := 4) rfl))) (mvT hZ (hw _ (List.mem_of_getElem? (i := 5) rfl))) (notFace_of_selects (args := #[]) (mvT hZ (hw _ (List.mem_of_getElem? (i := 7) rfl)))) (mvT hZ (hw _ (List.mem_of_getElem? (i := 7) rfl))) (mvT hZ (hw _ (List.mem_of_getElem? (i := 6) rfl))) (by decide) (backOf (W := 0) (r1_30 l Z a0 hw [] h0 n0 Z0 w P) hZ (hw _ (List.mem_of_getElem? (i := 8) rfl)) (hw _ (List.mem_of_getElem? (i := 2) rfl)) (by decide) (by decide)) q93a q93c (g := (mkF m 281 #[.val (.int p1), .val (.int p2), .val (.int p3), .val (.int (3 : Int32)), .val (.int (1 : Int32)), .val (.int (1 : Int32)), .val (.int (0 : Int32)), .val (.int (1 : Int32)), .val (.int (1 : Int32)), .val (.ref (w 6)), .val (.int (1 : Int32))] [(.int (1 : Int32)), (.int (1 : Int32)), (.ref (w 6))])) rfl (by rw [hml]; rfl) (Steps.refl _) (argsL := [(.int (1 : Int32)), (.int (1 : Int32))]) (rest := []) (lenOf pd0 rfl) rfl (by show 2 * 0 + _ ≤ _; exact Nat.le_of_eq rfl) (hb hby at_281) (fun _ _ => ⟨rfl, e91, (by decide : 0 + 0 ≤ _), (by decide : 0 + 0 ≤ _)⟩)
        dsimp only [Pt.U, Pt.locs, Pt.cells, Pt.slots] at X93 l93 y93 z93 st93 hQ93
        subst l93 y93 z93
        obtain ⟨rfl, Nq93, e93⟩ := hQ93
        have N93 := Fr.app N0 Nq93
        refine Goes.tr st93 ?_
        refine Goes.by (fun _ kz => XS.iload X93.here hx rfl (hb hby at_284) rfl (XS.icmpNo X93.here hx rfl (hb hby at_286) rfl (teq (by decide : (1 : Int32) = (1 : Int32))).2 (XS.iconst X93.here hx rfl (hb hby at_289) kz))) ?_
        show Goes p e below (T93.setTop (mkF m 290 #[.val (.int p1), .val (.int p2), .val (.int p3), .val (.int (3 : Int32)), .val (.int (1 : Int32)), .val (.int (1 : Int32)), .val (.int (0 : Int32)), .val (.int (1 : Int32)), .val (.int (1 : Int32)), .val (.ref (w 6)), .val (.int (1 : Int32))] [(.int (1 : Int32))])) _
        refine Goes.by (fun _ kz => XS.goto X93.here hx rfl (pc0 := 290) (pc' := 294) rfl (hb hby at_290) (by decide) (by decide) kz) ?_
        show Goes p e below (T93.setTop (mkF m 294 #[.val (.int p1), .val (.int p2), .val (.int p3), .val (.int (3 : Int32)), .val (.int (1 : Int32)), .val (.int (1 : Int32)), .val (.int (0 : Int32)), .val (.int (1 : Int32)), .val (.int (1 : Int32)), .val (.ref (w 6)), .val (.int (1 : Int32))] [(.int (1 : Int32))])) _
        obtain ⟨fs, hr, hrun, hended, hW, hsame⟩ := X93.leave (v := some (.int (1 : Int32))) (fun h => by rw [Bd.returns] at h; cases h)
        exact ⟨_, _, retN X93 hx (t := .boolean) Bd.returns (by simp) (hb hby at_294) hr, hrun, hended, _, _, rfl, ⟨rfl, N93⟩, ⟨_, rfl⟩, hW, hsame.mono (by decide) (by decide)⟩
      · show Goes p e below (s₁.setTop (mkF m 65 #[.val (.int p1), .val (.int p2), .val (.int p3), .val (.int (4 : Int32)), .val (.int (1 : Int32)), .val (.int (1 : Int32)), .val (.int (0 : Int32)), .val (.int (1 : Int32)), .val (.int (1 : Int32)), .unset, .unset] [])) _
        refine Goes.by (fun _ kz => XS.iloadN X0.here hx rfl (hb hby at_65) rfl (XS.ifYes X0.here hx rfl (pc0 := 66) (pc' := 80) rfl (hb hby at_66) rfl ((if0 _ _).trans (feq (by decide : ¬ ((4 : Int32) = (0 : Int32)))).2) (by decide) (by decide) (XS.iloadN X0.here hx rfl (hb hby at_80) rfl kz))) ?_
        show Goes p e below (s₁.setTop (mkF m 81 #[.val (.int p1), .val (.int p2), .val (.int p3), .val (.int (4 : Int32)), .val (.int (1 : Int32)), .val (.int (1 : Int32)), .val (.int (0 : Int32)), .val (.int (1 : Int32)), .val (.int (1 : Int32)), .unset, .unset] [(.int (4 : Int32))])) _
        refine Goes.by (fun _ kz => XS.iconst X0.here hx rfl (hb hby at_81) (XS.icmpYes X0.here hx rfl (pc0 := 82) (pc' := 110) rfl (hb hby at_82) rfl (feq (by decide : ¬ ((4 : Int32) = (1 : Int32)))).2 (by decide) (by decide) (XS.iloadN X0.here hx rfl (hb hby at_110) rfl kz))) ?_
        show Goes p e below (s₁.setTop (mkF m 111 #[.val (.int p1), .val (.int p2), .val (.int p3), .val (.int (4 : Int32)), .val (.int (1 : Int32)), .val (.int (1 : Int32)), .val (.int (0 : Int32)), .val (.int (1 : Int32)), .val (.int (1 : Int32)), .unset, .unset] [(.int (4 : Int32))])) _
        refine Goes.by (fun _ kz => XS.iconst X0.here hx rfl (hb hby at_111) (XS.icmpYes X0.here hx rfl (pc0 := 112) (pc' := 140) rfl (hb hby at_112) rfl (feq (by decide : ¬ ((4 : Int32) = (2 : Int32)))).2 (by decide) (by decide) (XS.iloadN X0.here hx rfl (hb hby at_140) rfl kz))) ?_
        show Goes p e below (s₁.setTop (mkF m 141 #[.val (.int p1), .val (.int p2), .val (.int p3), .val (.int (4 : Int32)), .val (.int (1 : Int32)), .val (.int (1 : Int32)), .val (.int (0 : Int32)), .val (.int (1 : Int32)), .val (.int (1 : Int32)), .unset, .unset] [(.int (4 : Int32))])) _
        refine Goes.by (fun _ kz => XS.iconst X0.here hx rfl (hb hby at_141) (XS.icmpYes X0.here hx rfl (pc0 := 142) (pc' := 157) rfl (hb hby at_142) rfl (feq (by decide : ¬ ((4 : Int32) = (3 : Int32)))).2 (by decide) (by decide) (XS.iloadN X0.here hx rfl (hb hby at_157) rfl kz))) ?_
        show Goes p e below (s₁.setTop (mkF m 158 #[.val (.int p1), .val (.int p2), .val (.int p3), .val (.int (4 : Int32)), .val (.int (1 : Int32)), .val (.int (1 : Int32)), .val (.int (0 : Int32)), .val (.int (1 : Int32)), .val (.int (1 : Int32)), .unset, .unset] [(.int (4 : Int32))])) _
        refine Goes.by (fun _ kz => XS.iconst X0.here hx rfl (hb hby at_158) (XS.icmpNo X0.here hx rfl (hb hby at_159) rfl (teq (by decide : (4 : Int32) = (4 : Int32))).2 kz)) ?_
        obtain ⟨T94, X94, e94, st94⟩ := getS2 X0 hx hZ hown (host := "") (Or.inl (hw _ (List.mem_of_getElem? (i := 29) rfl))) Via.refl e0 P.2.2.2.2.2.2.2.2.2.2.2.2.2.2.1 (g := (mkF m 162 #[.val (.int p1), .val (.int p2), .val (.int p3), .val (.int (4 : Int32)), .val (.int (1 : Int32)), .val (.int (1 : Int32)), .val (.int (0 : Int32)), .val (.int (1 : Int32)), .val (.int (1 : Int32)), .unset, .unset] [])) rfl (hb hby at_162)
        refine Goes.by st94 ?_
        refine Goes.by (fun _ kz => XS.astore X94.here hx rfl (hb hby at_165) rfl rfl (l' := #[.val (.int p1), .val (.int p2), .val (.int p3), .val (.int (4 : Int32)), .val (.int (1 : Int32)), .val (.int (1 : Int32)), .val (.int (0 : Int32)), .val (.int (1 : Int32)), .val (.int (1 : Int32)), .val (.ref (w 7)), .unset]) rfl (XS.iload X94.here hx rfl (hb hby at_167) rfl (XS.ifNo X94.here hx rfl (hb hby at_169) rfl ((if0 _ _).trans (feq (by decide : ¬ ((1 : Int32) = (0 : Int32)))).1) kz))) ?_
        show Goes p e below (T94.setTop (mkF m 172 #[.val (.int p1), .val (.int p2), .val (.int p3), .val (.int (4 : Int32)), .val (.int (1 : Int32)), .val (.int (1 : Int32)), .val (.int (0 : Int32)), .val (.int (1 : Int32)), .val (.int (1 : Int32)), .val (.ref (w 7)), .unset] [])) _
        refine Goes.by (fun _ kz => XS.iload X94.here hx rfl (hb hby at_172) rfl (XS.ifNo X94.here hx rfl (hb hby at_174) rfl ((if0 _ _).trans (feq (by decide : ¬ ((1 : Int32) = (0 : Int32)))).1) (XS.iconst X94.here hx rfl (hb hby at_177) kz))) ?_
        show Goes p e below (T94.setTop (mkF m 178 #[.val (.int p1), .val (.int p2), .val (.int p3), .val (.int (4 : Int32)), .val (.int (1 : Int32)), .val (.int (1 : Int32)), .val (.int (0 : Int32)), .val (.int (1 : Int32)), .val (.int (1 : Int32)), .val (.ref (w 7)), .unset] [(.int (1 : Int32))])) _
        refine Goes.by (fun _ kz => XS.goto X94.here hx rfl (pc0 := 178) (pc' := 182) rfl (hb hby at_178) (by decide) (by decide) (XS.istore X94.here hx rfl (hb hby at_182) rfl (l' := #[.val (.int p1), .val (.int p2), .val (.int p3), .val (.int (4 : Int32)), .val (.int (1 : Int32)), .val (.int (1 : Int32)), .val (.int (0 : Int32)), .val (.int (1 : Int32)), .val (.int (1 : Int32)), .val (.ref (w 7)), .val (.int (1 : Int32))]) rfl (XS.goto X94.here hx rfl (pc0 := 184) (pc' := 275) rfl (hb hby at_184) (by decide) (by decide) kz))) ?_
        show Goes p e below (T94.setTop (mkF m 275 #[.val (.int p1), .val (.int p2), .val (.int p3), .val (.int (4 : Int32)), .val (.int (1 : Int32)), .val (.int (1 : Int32)), .val (.int (0 : Int32)), .val (.int (1 : Int32)), .val (.int (1 : Int32)), .val (.ref (w 7)), .val (.int (1 : Int32))] [])) _
        refine Goes.by (fun _ kz => XS.aload X94.here hx rfl (hb hby at_275) rfl rfl (XS.iload X94.here hx rfl (hb hby at_277) rfl (XS.iload X94.here hx rfl (hb hby at_279) rfl kz))) ?_
        obtain ⟨cq96, kq96, q96a, q96b, q96c⟩ := isOf hZ e94 P.2.2.2.2.2.2.2.2.2.2.2.2.2.2.2.1
        obtain ⟨_, _, ⟨T96, L96, k96, n96⟩, -, X96, ⟨Lc96, hQ96, l96, y96, z96⟩, st96⟩ := X94.virtualBack hx (y := (⟨"com/example/entail/entail/model/Scope", "reaches", "(IZ)Z"⟩ : MethodName)) (z := (⟨"com/example/entail/entail/model/Scope", "reaches", "(IZ)Z"⟩ : MethodName)) hown (mvT hZ (hw _ (List.mem_of_getElem? (i := 4) rfl))) (mvT hZ (hw _ (List.mem_of_getElem? (i := 5) rfl))) (notFace_of_selects (args := #[]) (mvT hZ (hw _ (List.mem_of_getElem? (i := 7) rfl)))) (mvT hZ (hw _ (List.mem_of_getElem? (i := 7) rfl))) (mvT hZ (hw _ (List.mem_of_getElem? (i := 6) rfl))) (by decide) (backOf (W := 0) (r1_31 l Z a0 hw [] h0 n0 Z0 w P) hZ (hw _ (List.mem_of_getElem? (i := 8) rfl)) (hw _ (List.mem_of_getElem? (i := 2) rfl)) (by decide) (by decide)) q96a q96c (g := (mkF m 281 #[.val (.int p1), .val (.int p2), .val (.int p3), .val (.int (4 : Int32)), .val (.int (1 : Int32)), .val (.int (1 : Int32)), .val (.int (0 : Int32)), .val (.int (1 : Int32)), .val (.int (1 : Int32)), .val (.ref (w 7)), .val (.int (1 : Int32))] [(.int (1 : Int32)), (.int (1 : Int32)), (.ref (w 7))])) rfl (by rw [hml]; rfl) (Steps.refl _) (argsL := [(.int (1 : Int32)), (.int (1 : Int32))]) (rest := []) (lenOf pd0 rfl) rfl (by show 2 * 0 + _ ≤ _; exact Nat.le_of_eq rfl) (hb hby at_281) (fun _ _ => ⟨rfl, e94, (by decide : 0 + 0 ≤ _), (by decide : 0 + 0 ≤ _)⟩)
        dsimp only [Pt.U, Pt.locs, Pt.cells, Pt.slots] at X96 l96 y96 z96 st96 hQ96
        subst l96 y96 z96
        obtain ⟨rfl, Nq96, e96⟩ := hQ96
        have N96 := Fr.app N0 Nq96
        refine Goes.tr st96 ?_
        refine Goes.by (fun _ kz => XS.iload X96.here hx rfl (hb hby at_284) rfl (XS.icmpNo X96.here hx rfl (hb hby at_286) rfl (teq (by decide : (1 : Int32) = (1 : Int32))).2 (XS.iconst X96.here hx rfl (hb hby at_289) kz))) ?_
        show Goes p e below (T96.setTop (mkF m 290 #[.val (.int p1), .val (.int p2), .val (.int p3), .val (.int (4 : Int32)), .val (.int (1 : Int32)), .val (.int (1 : Int32)), .val (.int (0 : Int32)), .val (.int (1 : Int32)), .val (.int (1 : Int32)), .val (.ref (w 7)), .val (.int (1 : Int32))] [(.int (1 : Int32))])) _
        refine Goes.by (fun _ kz => XS.goto X96.here hx rfl (pc0 := 290) (pc' := 294) rfl (hb hby at_290) (by decide) (by decide) kz) ?_
        show Goes p e below (T96.setTop (mkF m 294 #[.val (.int p1), .val (.int p2), .val (.int p3), .val (.int (4 : Int32)), .val (.int (1 : Int32)), .val (.int (1 : Int32)), .val (.int (0 : Int32)), .val (.int (1 : Int32)), .val (.int (1 : Int32)), .val (.ref (w 7)), .val (.int (1 : Int32))] [(.int (1 : Int32))])) _
        obtain ⟨fs, hr, hrun, hended, hW, hsame⟩ := X96.leave (v := some (.int (1 : Int32))) (fun h => by rw [Bd.returns] at h; cases h)
        exact ⟨_, _, retN X96 hx (t := .boolean) Bd.returns (by simp) (hb hby at_294) hr, hrun, hended, _, _, rfl, ⟨rfl, N96⟩, ⟨_, rfl⟩, hW, hsame.mono (by decide) (by decide)⟩
      · show Goes p e below (s₁.setTop (mkF m 65 #[.val (.int p1), .val (.int p2), .val (.int p3), .val (.int (5 : Int32)), .val (.int (1 : Int32)), .val (.int (1 : Int32)), .val (.int (0 : Int32)), .val (.int (1 : Int32)), .val (.int (1 : Int32)), .unset, .unset] [])) _
        refine Goes.by (fun _ kz => XS.iloadN X0.here hx rfl (hb hby at_65) rfl (XS.ifYes X0.here hx rfl (pc0 := 66) (pc' := 80) rfl (hb hby at_66) rfl ((if0 _ _).trans (feq (by decide : ¬ ((5 : Int32) = (0 : Int32)))).2) (by decide) (by decide) (XS.iloadN X0.here hx rfl (hb hby at_80) rfl kz))) ?_
        show Goes p e below (s₁.setTop (mkF m 81 #[.val (.int p1), .val (.int p2), .val (.int p3), .val (.int (5 : Int32)), .val (.int (1 : Int32)), .val (.int (1 : Int32)), .val (.int (0 : Int32)), .val (.int (1 : Int32)), .val (.int (1 : Int32)), .unset, .unset] [(.int (5 : Int32))])) _
        refine Goes.by (fun _ kz => XS.iconst X0.here hx rfl (hb hby at_81) (XS.icmpYes X0.here hx rfl (pc0 := 82) (pc' := 110) rfl (hb hby at_82) rfl (feq (by decide : ¬ ((5 : Int32) = (1 : Int32)))).2 (by decide) (by decide) (XS.iloadN X0.here hx rfl (hb hby at_110) rfl kz))) ?_
        show Goes p e below (s₁.setTop (mkF m 111 #[.val (.int p1), .val (.int p2), .val (.int p3), .val (.int (5 : Int32)), .val (.int (1 : Int32)), .val (.int (1 : Int32)), .val (.int (0 : Int32)), .val (.int (1 : Int32)), .val (.int (1 : Int32)), .unset, .unset] [(.int (5 : Int32))])) _
        refine Goes.by (fun _ kz => XS.iconst X0.here hx rfl (hb hby at_111) (XS.icmpYes X0.here hx rfl (pc0 := 112) (pc' := 140) rfl (hb hby at_112) rfl (feq (by decide : ¬ ((5 : Int32) = (2 : Int32)))).2 (by decide) (by decide) (XS.iloadN X0.here hx rfl (hb hby at_140) rfl kz))) ?_
        show Goes p e below (s₁.setTop (mkF m 141 #[.val (.int p1), .val (.int p2), .val (.int p3), .val (.int (5 : Int32)), .val (.int (1 : Int32)), .val (.int (1 : Int32)), .val (.int (0 : Int32)), .val (.int (1 : Int32)), .val (.int (1 : Int32)), .unset, .unset] [(.int (5 : Int32))])) _
        refine Goes.by (fun _ kz => XS.iconst X0.here hx rfl (hb hby at_141) (XS.icmpYes X0.here hx rfl (pc0 := 142) (pc' := 157) rfl (hb hby at_142) rfl (feq (by decide : ¬ ((5 : Int32) = (3 : Int32)))).2 (by decide) (by decide) (XS.iloadN X0.here hx rfl (hb hby at_157) rfl kz))) ?_
        show Goes p e below (s₁.setTop (mkF m 158 #[.val (.int p1), .val (.int p2), .val (.int p3), .val (.int (5 : Int32)), .val (.int (1 : Int32)), .val (.int (1 : Int32)), .val (.int (0 : Int32)), .val (.int (1 : Int32)), .val (.int (1 : Int32)), .unset, .unset] [(.int (5 : Int32))])) _
        refine Goes.by (fun _ kz => XS.iconst X0.here hx rfl (hb hby at_158) (XS.icmpYes X0.here hx rfl (pc0 := 159) (pc' := 187) rfl (hb hby at_159) rfl (feq (by decide : ¬ ((5 : Int32) = (4 : Int32)))).2 (by decide) (by decide) (XS.iloadN X0.here hx rfl (hb hby at_187) rfl kz))) ?_
        show Goes p e below (s₁.setTop (mkF m 188 #[.val (.int p1), .val (.int p2), .val (.int p3), .val (.int (5 : Int32)), .val (.int (1 : Int32)), .val (.int (1 : Int32)), .val (.int (0 : Int32)), .val (.int (1 : Int32)), .val (.int (1 : Int32)), .unset, .unset] [(.int (5 : Int32))])) _
        refine Goes.by (fun _ kz => XS.iconst X0.here hx rfl (hb hby at_188) (XS.icmpNo X0.here hx rfl (hb hby at_189) rfl (teq (by decide : (5 : Int32) = (5 : Int32))).2 kz)) ?_
        obtain ⟨T97, X97, e97, st97⟩ := getS2 X0 hx hZ hown (host := "") (Or.inl (hw _ (List.mem_of_getElem? (i := 31) rfl))) Via.refl e0 P.2.2.2.2.2.2.2.2.2.2.2.2.2.2.2.2.1 (g := (mkF m 192 #[.val (.int p1), .val (.int p2), .val (.int p3), .val (.int (5 : Int32)), .val (.int (1 : Int32)), .val (.int (1 : Int32)), .val (.int (0 : Int32)), .val (.int (1 : Int32)), .val (.int (1 : Int32)), .unset, .unset] [])) rfl (hb hby at_192)
        refine Goes.by st97 ?_
        refine Goes.by (fun _ kz => XS.astore X97.here hx rfl (hb hby at_195) rfl rfl (l' := #[.val (.int p1), .val (.int p2), .val (.int p3), .val (.int (5 : Int32)), .val (.int (1 : Int32)), .val (.int (1 : Int32)), .val (.int (0 : Int32)), .val (.int (1 : Int32)), .val (.int (1 : Int32)), .val (.ref (w 8)), .unset]) rfl (XS.iload X97.here hx rfl (hb hby at_197) rfl (XS.ifNo X97.here hx rfl (hb hby at_199) rfl ((if0 _ _).trans (feq (by decide : ¬ ((1 : Int32) = (0 : Int32)))).1) kz))) ?_
        show Goes p e below (T97.setTop (mkF m 202 #[.val (.int p1), .val (.int p2), .val (.int p3), .val (.int (5 : Int32)), .val (.int (1 : Int32)), .val (.int (1 : Int32)), .val (.int (0 : Int32)), .val (.int (1 : Int32)), .val (.int (1 : Int32)), .val (.ref (w 8)), .unset] [])) _
        refine Goes.by (fun _ kz => XS.iload X97.here hx rfl (hb hby at_202) rfl (XS.ifYes X97.here hx rfl (pc0 := 204) (pc' := 211) rfl (hb hby at_204) rfl ((if0 _ _).trans (feq (by decide : ¬ ((1 : Int32) = (0 : Int32)))).2) (by decide) (by decide) (XS.iconst X97.here hx rfl (hb hby at_211) kz))) ?_
        show Goes p e below (T97.setTop (mkF m 212 #[.val (.int p1), .val (.int p2), .val (.int p3), .val (.int (5 : Int32)), .val (.int (1 : Int32)), .val (.int (1 : Int32)), .val (.int (0 : Int32)), .val (.int (1 : Int32)), .val (.int (1 : Int32)), .val (.ref (w 8)), .unset] [(.int (0 : Int32))])) _
        refine Goes.by (fun _ kz => XS.istore X97.here hx rfl (hb hby at_212) rfl (l' := #[.val (.int p1), .val (.int p2), .val (.int p3), .val (.int (5 : Int32)), .val (.int (1 : Int32)), .val (.int (1 : Int32)), .val (.int (0 : Int32)), .val (.int (1 : Int32)), .val (.int (1 : Int32)), .val (.ref (w 8)), .val (.int (0 : Int32))]) rfl (XS.goto X97.here hx rfl (pc0 := 214) (pc' := 275) rfl (hb hby at_214) (by decide) (by decide) (XS.aload X97.here hx rfl (hb hby at_275) rfl rfl kz))) ?_
        show Goes p e below (T97.setTop (mkF m 277 #[.val (.int p1), .val (.int p2), .val (.int p3), .val (.int (5 : Int32)), .val (.int (1 : Int32)), .val (.int (1 : Int32)), .val (.int (0 : Int32)), .val (.int (1 : Int32)), .val (.int (1 : Int32)), .val (.ref (w 8)), .val (.int (0 : Int32))] [(.ref (w 8))])) _
        refine Goes.by (fun _ kz => XS.iload X97.here hx rfl (hb hby at_277) rfl (XS.iload X97.here hx rfl (hb hby at_279) rfl kz)) ?_
        obtain ⟨cq99, kq99, q99a, q99b, q99c⟩ := isOf hZ e97 P.2.2.2.2.2.2.2.2.2.2.2.2.2.2.2.2.2.1
        obtain ⟨_, _, ⟨T99, L99, k99, n99⟩, -, X99, ⟨Lc99, hQ99, l99, y99, z99⟩, st99⟩ := X97.virtualBack hx (y := (⟨"com/example/entail/entail/model/Scope", "reaches", "(IZ)Z"⟩ : MethodName)) (z := (⟨"com/example/entail/entail/model/Scope", "reaches", "(IZ)Z"⟩ : MethodName)) hown (mvT hZ (hw _ (List.mem_of_getElem? (i := 4) rfl))) (mvT hZ (hw _ (List.mem_of_getElem? (i := 5) rfl))) (notFace_of_selects (args := #[]) (mvT hZ (hw _ (List.mem_of_getElem? (i := 7) rfl)))) (mvT hZ (hw _ (List.mem_of_getElem? (i := 7) rfl))) (mvT hZ (hw _ (List.mem_of_getElem? (i := 6) rfl))) (by decide) (backOf (W := 0) (r1_32 l Z a0 hw [] h0 n0 Z0 w P) hZ (hw _ (List.mem_of_getElem? (i := 8) rfl)) (hw _ (List.mem_of_getElem? (i := 2) rfl)) (by decide) (by decide)) q99a q99c (g := (mkF m 281 #[.val (.int p1), .val (.int p2), .val (.int p3), .val (.int (5 : Int32)), .val (.int (1 : Int32)), .val (.int (1 : Int32)), .val (.int (0 : Int32)), .val (.int (1 : Int32)), .val (.int (1 : Int32)), .val (.ref (w 8)), .val (.int (0 : Int32))] [(.int (1 : Int32)), (.int (1 : Int32)), (.ref (w 8))])) rfl (by rw [hml]; rfl) (Steps.refl _) (argsL := [(.int (1 : Int32)), (.int (1 : Int32))]) (rest := []) (lenOf pd0 rfl) rfl (by show 2 * 0 + _ ≤ _; exact Nat.le_of_eq rfl) (hb hby at_281) (fun _ _ => ⟨rfl, e97, (by decide : 0 + 0 ≤ _), (by decide : 0 + 0 ≤ _)⟩)
        dsimp only [Pt.U, Pt.locs, Pt.cells, Pt.slots] at X99 l99 y99 z99 st99 hQ99
        subst l99 y99 z99
        obtain ⟨rfl, Nq99, e99⟩ := hQ99
        have N99 := Fr.app N0 Nq99
        refine Goes.tr st99 ?_
        refine Goes.by (fun _ kz => XS.iload X99.here hx rfl (hb hby at_284) rfl (XS.icmpNo X99.here hx rfl (hb hby at_286) rfl (teq (by decide : (0 : Int32) = (0 : Int32))).2 (XS.iconst X99.here hx rfl (hb hby at_289) kz))) ?_
        show Goes p e below (T99.setTop (mkF m 290 #[.val (.int p1), .val (.int p2), .val (.int p3), .val (.int (5 : Int32)), .val (.int (1 : Int32)), .val (.int (1 : Int32)), .val (.int (0 : Int32)), .val (.int (1 : Int32)), .val (.int (1 : Int32)), .val (.ref (w 8)), .val (.int (0 : Int32))] [(.int (1 : Int32))])) _
        refine Goes.by (fun _ kz => XS.goto X99.here hx rfl (pc0 := 290) (pc' := 294) rfl (hb hby at_290) (by decide) (by decide) kz) ?_
        show Goes p e below (T99.setTop (mkF m 294 #[.val (.int p1), .val (.int p2), .val (.int p3), .val (.int (5 : Int32)), .val (.int (1 : Int32)), .val (.int (1 : Int32)), .val (.int (0 : Int32)), .val (.int (1 : Int32)), .val (.int (1 : Int32)), .val (.ref (w 8)), .val (.int (0 : Int32))] [(.int (1 : Int32))])) _
        obtain ⟨fs, hr, hrun, hended, hW, hsame⟩ := X99.leave (v := some (.int (1 : Int32))) (fun h => by rw [Bd.returns] at h; cases h)
        exact ⟨_, _, retN X99 hx (t := .boolean) Bd.returns (by simp) (hb hby at_294) hr, hrun, hended, _, _, rfl, ⟨rfl, N99⟩, ⟨_, rfl⟩, hW, hsame.mono (by decide) (by decide)⟩
      · show Goes p e below (s₁.setTop (mkF m 65 #[.val (.int p1), .val (.int p2), .val (.int p3), .val (.int (6 : Int32)), .val (.int (1 : Int32)), .val (.int (1 : Int32)), .val (.int (0 : Int32)), .val (.int (1 : Int32)), .val (.int (1 : Int32)), .unset, .unset] [])) _
        refine Goes.by (fun _ kz => XS.iloadN X0.here hx rfl (hb hby at_65) rfl (XS.ifYes X0.here hx rfl (pc0 := 66) (pc' := 80) rfl (hb hby at_66) rfl ((if0 _ _).trans (feq (by decide : ¬ ((6 : Int32) = (0 : Int32)))).2) (by decide) (by decide) (XS.iloadN X0.here hx rfl (hb hby at_80) rfl kz))) ?_
        show Goes p e below (s₁.setTop (mkF m 81 #[.val (.int p1), .val (.int p2), .val (.int p3), .val (.int (6 : Int32)), .val (.int (1 : Int32)), .val (.int (1 : Int32)), .val (.int (0 : Int32)), .val (.int (1 : Int32)), .val (.int (1 : Int32)), .unset, .unset] [(.int (6 : Int32))])) _
        refine Goes.by (fun _ kz => XS.iconst X0.here hx rfl (hb hby at_81) (XS.icmpYes X0.here hx rfl (pc0 := 82) (pc' := 110) rfl (hb hby at_82) rfl (feq (by decide : ¬ ((6 : Int32) = (1 : Int32)))).2 (by decide) (by decide) (XS.iloadN X0.here hx rfl (hb hby at_110) rfl kz))) ?_
        show Goes p e below (s₁.setTop (mkF m 111 #[.val (.int p1), .val (.int p2), .val (.int p3), .val (.int (6 : Int32)), .val (.int (1 : Int32)), .val (.int (1 : Int32)), .val (.int (0 : Int32)), .val (.int (1 : Int32)), .val (.int (1 : Int32)), .unset, .unset] [(.int (6 : Int32))])) _
        refine Goes.by (fun _ kz => XS.iconst X0.here hx rfl (hb hby at_111) (XS.icmpYes X0.here hx rfl (pc0 := 112) (pc' := 140) rfl (hb hby at_112) rfl (feq (by decide : ¬ ((6 : Int32) = (2 : Int32)))).2 (by decide) (by decide) (XS.iloadN X0.here hx rfl (hb hby at_140) rfl kz))) ?_
        show Goes p e below (s₁.setTop (mkF m 141 #[.val (.int p1), .val (.int p2), .val (.int p3), .val (.int (6 : Int32)), .val (.int (1 : Int32)), .val (.int (1 : Int32)), .val (.int (0 : Int32)), .val (.int (1 : Int32)), .val (.int (1 : Int32)), .unset, .unset] [(.int (6 : Int32))])) _
        refine Goes.by (fun _ kz => XS.iconst X0.here hx rfl (hb hby at_141) (XS.icmpYes X0.here hx rfl (pc0 := 142) (pc' := 157) rfl (hb hby at_142) rfl (feq (by decide : ¬ ((6 : Int32) = (3 : Int32)))).2 (by decide) (by decide) (XS.iloadN X0.here hx rfl (hb hby at_157) rfl kz))) ?_
        show Goes p e below (s₁.setTop (mkF m 158 #[.val (.int p1), .val (.int p2), .val (.int p3), .val (.int (6 : Int32)), .val (.int (1 : Int32)), .val (.int (1 : Int32)), .val (.int (0 : Int32)), .val (.int (1 : Int32)), .val (.int (1 : Int32)), .unset, .unset] [(.int (6 : Int32))])) _
        refine Goes.by (fun _ kz => XS.iconst X0.here hx rfl (hb hby at_158) (XS.icmpYes X0.here hx rfl (pc0 := 159) (pc' := 187) rfl (hb hby at_159) rfl (feq (by decide : ¬ ((6 : Int32) = (4 : Int32)))).2 (by decide) (by decide) (XS.iloadN X0.here hx rfl (hb hby at_187) rfl kz))) ?_
        show Goes p e below (s₁.setTop (mkF m 188 #[.val (.int p1), .val (.int p2), .val (.int p3), .val (.int (6 : Int32)), .val (.int (1 : Int32)), .val (.int (1 : Int32)), .val (.int (0 : Int32)), .val (.int (1 : Int32)), .val (.int (1 : Int32)), .unset, .unset] [(.int (6 : Int32))])) _
        refine Goes.by (fun _ kz => XS.iconst X0.here hx rfl (hb hby at_188) (XS.icmpYes X0.here hx rfl (pc0 := 189) (pc' := 217) rfl (hb hby at_189) rfl (feq (by decide : ¬ ((6 : Int32) = (5 : Int32)))).2 (by decide) (by decide) (XS.iloadN X0.here hx rfl (hb hby at_217) rfl kz))) ?_
        show Goes p e below (s₁.setTop (mkF m 218 #[.val (.int p1), .val (.int p2), .val (.int p3), .val (.int (6 : Int32)), .val (.int (1 : Int32)), .val (.int (1 : Int32)), .val (.int (0 : Int32)), .val (.int (1 : Int32)), .val (.int (1 : Int32)), .unset, .unset] [(.int (6 : Int32))])) _
        refine Goes.by (fun _ kz => XS.bipush X0.here hx rfl (hb hby at_218) (XS.icmpNo X0.here hx rfl (hb hby at_220) rfl (teq (by decide : (6 : Int32) = (6 : Int32))).2 kz)) ?_
        obtain ⟨T100, X100, e100, st100⟩ := getS2 X0 hx hZ hown (host := "") (Or.inl (hw _ (List.mem_of_getElem? (i := 21) rfl))) Via.refl e0 P.2.2.2.2.2.2.2.2.1 (g := (mkF m 223 #[.val (.int p1), .val (.int p2), .val (.int p3), .val (.int (6 : Int32)), .val (.int (1 : Int32)), .val (.int (1 : Int32)), .val (.int (0 : Int32)), .val (.int (1 : Int32)), .val (.int (1 : Int32)), .unset, .unset] [])) rfl (hb hby at_223)
        refine Goes.by st100 ?_
        refine Goes.by (fun _ kz => XS.astore X100.here hx rfl (hb hby at_226) rfl rfl (l' := #[.val (.int p1), .val (.int p2), .val (.int p3), .val (.int (6 : Int32)), .val (.int (1 : Int32)), .val (.int (1 : Int32)), .val (.int (0 : Int32)), .val (.int (1 : Int32)), .val (.int (1 : Int32)), .val (.ref (w 4)), .unset]) rfl (XS.iload X100.here hx rfl (hb hby at_228) rfl (XS.istore X100.here hx rfl (hb hby at_230) rfl (l' := #[.val (.int p1), .val (.int p2), .val (.int p3), .val (.int (6 : Int32)), .val (.int (1 : Int32)), .val (.int (1 : Int32)), .val (.int (0 : Int32)), .val (.int (1 : Int32)), .val (.int (1 : Int32)), .val (.ref (w 4)), .val (.int (1 : Int32))]) rfl kz))) ?_
        show Goes p e below (T100.setTop (mkF m 232 #[.val (.int p1), .val (.int p2), .val (.int p3), .val (.int (6 : Int32)), .val (.int (1 : Int32)), .val (.int (1 : Int32)), .val (.int (0 : Int32)), .val (.int (1 : Int32)), .val (.int (1 : Int32)), .val (.ref (w 4)), .val (.int (1 : Int32))] [])) _
        refine Goes.by (fun _ kz => XS.goto X100.here hx rfl (pc0 := 232) (pc' := 275) rfl (hb hby at_232) (by decide) (by decide) (XS.aload X100.here hx rfl (hb hby at_275) rfl rfl (XS.iload X100.here hx rfl (hb hby at_277) rfl kz))) ?_
        show Goes p e below (T100.setTop (mkF m 279 #[.val (.int p1), .val (.int p2), .val (.int p3), .val (.int (6 : Int32)), .val (.int (1 : Int32)), .val (.int (1 : Int32)), .val (.int (0 : Int32)), .val (.int (1 : Int32)), .val (.int (1 : Int32)), .val (.ref (w 4)), .val (.int (1 : Int32))] [(.int (1 : Int32)), (.ref (w 4))])) _
        refine Goes.by (fun _ kz => XS.iload X100.here hx rfl (hb hby at_279) rfl kz) ?_
        obtain ⟨cq102, kq102, q102a, q102b, q102c⟩ := isOf hZ e100 P.2.2.2.2.2.2.2.2.2.1
        obtain ⟨_, _, ⟨T102, L102, k102, n102⟩, -, X102, ⟨Lc102, hQ102, l102, y102, z102⟩, st102⟩ := X100.virtualBack hx (y := (⟨"com/example/entail/entail/model/Scope", "reaches", "(IZ)Z"⟩ : MethodName)) (z := (⟨"com/example/entail/entail/model/Scope", "reaches", "(IZ)Z"⟩ : MethodName)) hown (mvT hZ (hw _ (List.mem_of_getElem? (i := 4) rfl))) (mvT hZ (hw _ (List.mem_of_getElem? (i := 5) rfl))) (notFace_of_selects (args := #[]) (mvT hZ (hw _ (List.mem_of_getElem? (i := 7) rfl)))) (mvT hZ (hw _ (List.mem_of_getElem? (i := 7) rfl))) (mvT hZ (hw _ (List.mem_of_getElem? (i := 6) rfl))) (by decide) (backOf (W := 0) (r1_33 l Z a0 hw [] h0 n0 Z0 w P) hZ (hw _ (List.mem_of_getElem? (i := 8) rfl)) (hw _ (List.mem_of_getElem? (i := 2) rfl)) (by decide) (by decide)) q102a q102c (g := (mkF m 281 #[.val (.int p1), .val (.int p2), .val (.int p3), .val (.int (6 : Int32)), .val (.int (1 : Int32)), .val (.int (1 : Int32)), .val (.int (0 : Int32)), .val (.int (1 : Int32)), .val (.int (1 : Int32)), .val (.ref (w 4)), .val (.int (1 : Int32))] [(.int (1 : Int32)), (.int (1 : Int32)), (.ref (w 4))])) rfl (by rw [hml]; rfl) (Steps.refl _) (argsL := [(.int (1 : Int32)), (.int (1 : Int32))]) (rest := []) (lenOf pd0 rfl) rfl (by show 2 * 0 + _ ≤ _; exact Nat.le_of_eq rfl) (hb hby at_281) (fun _ _ => ⟨rfl, e100, (by decide : 0 + 0 ≤ _), (by decide : 0 + 0 ≤ _)⟩)
        dsimp only [Pt.U, Pt.locs, Pt.cells, Pt.slots] at X102 l102 y102 z102 st102 hQ102
        subst l102 y102 z102
        obtain ⟨rfl, Nq102, e102⟩ := hQ102
        have N102 := Fr.app N0 Nq102
        refine Goes.tr st102 ?_
        refine Goes.by (fun _ kz => XS.iload X102.here hx rfl (hb hby at_284) rfl (XS.icmpNo X102.here hx rfl (hb hby at_286) rfl (teq (by decide : (1 : Int32) = (1 : Int32))).2 (XS.iconst X102.here hx rfl (hb hby at_289) kz))) ?_
        show Goes p e below (T102.setTop (mkF m 290 #[.val (.int p1), .val (.int p2), .val (.int p3), .val (.int (6 : Int32)), .val (.int (1 : Int32)), .val (.int (1 : Int32)), .val (.int (0 : Int32)), .val (.int (1 : Int32)), .val (.int (1 : Int32)), .val (.ref (w 4)), .val (.int (1 : Int32))] [(.int (1 : Int32))])) _
        refine Goes.by (fun _ kz => XS.goto X102.here hx rfl (pc0 := 290) (pc' := 294) rfl (hb hby at_290) (by decide) (by decide) kz) ?_
        show Goes p e below (T102.setTop (mkF m 294 #[.val (.int p1), .val (.int p2), .val (.int p3), .val (.int (6 : Int32)), .val (.int (1 : Int32)), .val (.int (1 : Int32)), .val (.int (0 : Int32)), .val (.int (1 : Int32)), .val (.int (1 : Int32)), .val (.ref (w 4)), .val (.int (1 : Int32))] [(.int (1 : Int32))])) _
        obtain ⟨fs, hr, hrun, hended, hW, hsame⟩ := X102.leave (v := some (.int (1 : Int32))) (fun h => by rw [Bd.returns] at h; cases h)
        exact ⟨_, _, retN X102 hx (t := .boolean) Bd.returns (by simp) (hb hby at_294) hr, hrun, hended, _, _, rfl, ⟨rfl, N102⟩, ⟨_, rfl⟩, hW, hsame.mono (by decide) (by decide)⟩
      · show Goes p e below (s₁.setTop (mkF m 65 #[.val (.int p1), .val (.int p2), .val (.int p3), .val (.int (7 : Int32)), .val (.int (1 : Int32)), .val (.int (1 : Int32)), .val (.int (0 : Int32)), .val (.int (1 : Int32)), .val (.int (1 : Int32)), .unset, .unset] [])) _
        refine Goes.by (fun _ kz => XS.iloadN X0.here hx rfl (hb hby at_65) rfl (XS.ifYes X0.here hx rfl (pc0 := 66) (pc' := 80) rfl (hb hby at_66) rfl ((if0 _ _).trans (feq (by decide : ¬ ((7 : Int32) = (0 : Int32)))).2) (by decide) (by decide) (XS.iloadN X0.here hx rfl (hb hby at_80) rfl kz))) ?_
        show Goes p e below (s₁.setTop (mkF m 81 #[.val (.int p1), .val (.int p2), .val (.int p3), .val (.int (7 : Int32)), .val (.int (1 : Int32)), .val (.int (1 : Int32)), .val (.int (0 : Int32)), .val (.int (1 : Int32)), .val (.int (1 : Int32)), .unset, .unset] [(.int (7 : Int32))])) _
        refine Goes.by (fun _ kz => XS.iconst X0.here hx rfl (hb hby at_81) (XS.icmpYes X0.here hx rfl (pc0 := 82) (pc' := 110) rfl (hb hby at_82) rfl (feq (by decide : ¬ ((7 : Int32) = (1 : Int32)))).2 (by decide) (by decide) (XS.iloadN X0.here hx rfl (hb hby at_110) rfl kz))) ?_
        show Goes p e below (s₁.setTop (mkF m 111 #[.val (.int p1), .val (.int p2), .val (.int p3), .val (.int (7 : Int32)), .val (.int (1 : Int32)), .val (.int (1 : Int32)), .val (.int (0 : Int32)), .val (.int (1 : Int32)), .val (.int (1 : Int32)), .unset, .unset] [(.int (7 : Int32))])) _
        refine Goes.by (fun _ kz => XS.iconst X0.here hx rfl (hb hby at_111) (XS.icmpYes X0.here hx rfl (pc0 := 112) (pc' := 140) rfl (hb hby at_112) rfl (feq (by decide : ¬ ((7 : Int32) = (2 : Int32)))).2 (by decide) (by decide) (XS.iloadN X0.here hx rfl (hb hby at_140) rfl kz))) ?_
        show Goes p e below (s₁.setTop (mkF m 141 #[.val (.int p1), .val (.int p2), .val (.int p3), .val (.int (7 : Int32)), .val (.int (1 : Int32)), .val (.int (1 : Int32)), .val (.int (0 : Int32)), .val (.int (1 : Int32)), .val (.int (1 : Int32)), .unset, .unset] [(.int (7 : Int32))])) _
        refine Goes.by (fun _ kz => XS.iconst X0.here hx rfl (hb hby at_141) (XS.icmpYes X0.here hx rfl (pc0 := 142) (pc' := 157) rfl (hb hby at_142) rfl (feq (by decide : ¬ ((7 : Int32) = (3 : Int32)))).2 (by decide) (by decide) (XS.iloadN X0.here hx rfl (hb hby at_157) rfl kz))) ?_
        show Goes p e below (s₁.setTop (mkF m 158 #[.val (.int p1), .val (.int p2), .val (.int p3), .val (.int (7 : Int32)), .val (.int (1 : Int32)), .val (.int (1 : Int32)), .val (.int (0 : Int32)), .val (.int (1 : Int32)), .val (.int (1 : Int32)), .unset, .unset] [(.int (7 : Int32))])) _
        refine Goes.by (fun _ kz => XS.iconst X0.here hx rfl (hb hby at_158) (XS.icmpYes X0.here hx rfl (pc0 := 159) (pc' := 187) rfl (hb hby at_159) rfl (feq (by decide : ¬ ((7 : Int32) = (4 : Int32)))).2 (by decide) (by decide) (XS.iloadN X0.here hx rfl (hb hby at_187) rfl kz))) ?_
        show Goes p e below (s₁.setTop (mkF m 188 #[.val (.int p1), .val (.int p2), .val (.int p3), .val (.int (7 : Int32)), .val (.int (1 : Int32)), .val (.int (1 : Int32)), .val (.int (0 : Int32)), .val (.int (1 : Int32)), .val (.int (1 : Int32)), .unset, .unset] [(.int (7 : Int32))])) _
        refine Goes.by (fun _ kz => XS.iconst X0.here hx rfl (hb hby at_188) (XS.icmpYes X0.here hx rfl (pc0 := 189) (pc' := 217) rfl (hb hby at_189) rfl (feq (by decide : ¬ ((7 : Int32) = (5 : Int32)))).2 (by decide) (by decide) (XS.iloadN X0.here hx rfl (hb hby at_217) rfl kz))) ?_
        show Goes p e below (s₁.setTop (mkF m 218 #[.val (.int p1), .val (.int p2), .val (.int p3), .val (.int (7 : Int32)), .val (.int (1 : Int32)), .val (.int (1 : Int32)), .val (.int (0 : Int32)), .val (.int (1 : Int32)), .val (.int (1 : Int32)), .unset, .unset] [(.int (7 : Int32))])) _
        refine Goes.by (fun _ kz => XS.bipush X0.here hx rfl (hb hby at_218) (XS.icmpYes X0.here hx rfl (pc0 := 220) (pc' := 235) rfl (hb hby at_220) rfl (feq (by decide : ¬ ((7 : Int32) = (6 : Int32)))).2 (by decide) (by decide) (XS.iloadN X0.here hx rfl (hb hby at_235) rfl kz))) ?_
        show Goes p e below (s₁.setTop (mkF m 236 #[.val (.int p1), .val (.int p2), .val (.int p3), .val (.int (7 : Int32)), .val (.int (1 : Int32)), .val (.int (1 : Int32)), .val (.int (0 : Int32)), .val (.int (1 : Int32)), .val (.int (1 : Int32)), .unset, .unset] [(.int (7 : Int32))])) _
        refine Goes.by (fun _ kz => XS.bipush X0.here hx rfl (hb hby at_236) (XS.icmpNo X0.here hx rfl (hb hby at_238) rfl (teq (by decide : (7 : Int32) = (7 : Int32))).2 kz)) ?_
        obtain ⟨T103, X103, e103, st103⟩ := getS2 X0 hx hZ hown (host := "") (Or.inl (hw _ (List.mem_of_getElem? (i := 23) rfl))) Via.refl e0 P.2.2.2.2.2.2.2.2.2.2.1 (g := (mkF m 241 #[.val (.int p1), .val (.int p2), .val (.int p3), .val (.int (7 : Int32)), .val (.int (1 : Int32)), .val (.int (1 : Int32)), .val (.int (0 : Int32)), .val (.int (1 : Int32)), .val (.int (1 : Int32)), .unset, .unset] [])) rfl (hb hby at_241)
        refine Goes.by st103 ?_
        refine Goes.by (fun _ kz => XS.astore X103.here hx rfl (hb hby at_244) rfl rfl (l' := #[.val (.int p1), .val (.int p2), .val (.int p3), .val (.int (7 : Int32)), .val (.int (1 : Int32)), .val (.int (1 : Int32)), .val (.int (0 : Int32)), .val (.int (1 : Int32)), .val (.int (1 : Int32)), .val (.ref (w 5)), .unset]) rfl (XS.iload X103.here hx rfl (hb hby at_246) rfl (XS.ifNo X103.here hx rfl (hb hby at_248) rfl ((if0 _ _).trans (feq (by decide : ¬ ((1 : Int32) = (0 : Int32)))).1) kz))) ?_
        show Goes p e below (T103.setTop (mkF m 251 #[.val (.int p1), .val (.int p2), .val (.int p3), .val (.int (7 : Int32)), .val (.int (1 : Int32)), .val (.int (1 : Int32)), .val (.int (0 : Int32)), .val (.int (1 : Int32)), .val (.int (1 : Int32)), .val (.ref (w 5)), .unset] [])) _
        refine Goes.by (fun _ kz => XS.iload X103.here hx rfl (hb hby at_251) rfl (XS.ifYes X103.here hx rfl (pc0 := 253) (pc' := 260) rfl (hb hby at_253) rfl ((if0 _ _).trans (feq (by decide : ¬ ((1 : Int32) = (0 : Int32)))).2) (by decide) (by decide) (XS.iconst X103.here hx rfl (hb hby at_260) kz))) ?_
        show Goes p e below (T103.setTop (mkF m 261 #[.val (.int p1), .val (.int p2), .val (.int p3), .val (.int (7 : Int32)), .val (.int (1 : Int32)), .val (.int (1 : Int32)), .val (.int (0 : Int32)), .val (.int (1 : Int32)), .val (.int (1 : Int32)), .val (.ref (w 5)), .unset] [(.int (0 : Int32))])) _
        refine Goes.by (fun _ kz => XS.istore X103.here hx rfl (hb hby at_261) rfl (l' := #[.val (.int p1), .val (.int p2), .val (.int p3), .val (.int (7 : Int32)), .val (.int (1 : Int32)), .val (.int (1 : Int32)), .val (.int (0 : Int32)), .val (.int (1 : Int32)), .val (.int (1 : Int32)), .val (.ref (w 5)), .val (.int (0 : Int32))]) rfl (XS.goto X103.here hx rfl (pc0 := 263) (pc' := 275) rfl (hb hby at_263) (by decide) (by decide) (XS.aload X103.here hx rfl (hb hby at_275) rfl rfl kz))) ?_
        show Goes p e below (T103.setTop (mkF m 277 #[.val (.int p1), .val (.int p2), .val (.int p3), .val (.int (7 : Int32)), .val (.int (1 : Int32)), .val (.int (1 : Int32)), .val (.int (0 : Int32)), .val (.int (1 : Int32)), .val (.int (1 : Int32)), .val (.ref (w 5)), .val (.int (0 : Int32))] [(.ref (w 5))])) _
        refine Goes.by (fun _ kz => XS.iload X103.here hx rfl (hb hby at_277) rfl (XS.iload X103.here hx rfl (hb hby at_279) rfl kz)) ?_
        obtain ⟨cq105, kq105, q105a, q105b, q105c⟩ := isOf hZ e103 P.2.2.2.2.2.2.2.2.2.2.2.1
        obtain ⟨_, _, ⟨T105, L105, k105, n105⟩, -, X105, ⟨Lc105, hQ105, l105, y105, z105⟩, st105⟩ := X103.virtualBack hx (y := (⟨"com/example/entail/entail/model/Scope", "reaches", "(IZ)Z"⟩ : MethodName)) (z := (⟨"com/example/entail/entail/model/Scope", "reaches", "(IZ)Z"⟩ : MethodName)) hown (mvT hZ (hw _ (List.mem_of_getElem? (i := 4) rfl))) (mvT hZ (hw _ (List.mem_of_getElem? (i := 5) rfl))) (notFace_of_selects (args := #[]) (mvT hZ (hw _ (List.mem_of_getElem? (i := 7) rfl)))) (mvT hZ (hw _ (List.mem_of_getElem? (i := 7) rfl))) (mvT hZ (hw _ (List.mem_of_getElem? (i := 6) rfl))) (by decide) (backOf (W := 0) (r1_34 l Z a0 hw [] h0 n0 Z0 w P) hZ (hw _ (List.mem_of_getElem? (i := 8) rfl)) (hw _ (List.mem_of_getElem? (i := 2) rfl)) (by decide) (by decide)) q105a q105c (g := (mkF m 281 #[.val (.int p1), .val (.int p2), .val (.int p3), .val (.int (7 : Int32)), .val (.int (1 : Int32)), .val (.int (1 : Int32)), .val (.int (0 : Int32)), .val (.int (1 : Int32)), .val (.int (1 : Int32)), .val (.ref (w 5)), .val (.int (0 : Int32))] [(.int (1 : Int32)), (.int (1 : Int32)), (.ref (w 5))])) rfl (by rw [hml]; rfl) (Steps.refl _) (argsL := [(.int (1 : Int32)), (.int (1 : Int32))]) (rest := []) (lenOf pd0 rfl) rfl (by show 2 * 0 + _ ≤ _; exact Nat.le_of_eq rfl) (hb hby at_281) (fun _ _ => ⟨rfl, e103, (by decide : 0 + 0 ≤ _), (by decide : 0 + 0 ≤ _)⟩)
        dsimp only [Pt.U, Pt.locs, Pt.cells, Pt.slots] at X105 l105 y105 z105 st105 hQ105
        subst l105 y105 z105
        obtain ⟨rfl, Nq105, e105⟩ := hQ105
        have N105 := Fr.app N0 Nq105
        refine Goes.tr st105 ?_
        refine Goes.by (fun _ kz => XS.iload X105.here hx rfl (hb hby at_284) rfl (XS.icmpNo X105.here hx rfl (hb hby at_286) rfl (teq (by decide : (0 : Int32) = (0 : Int32))).2 (XS.iconst X105.here hx rfl (hb hby at_289) kz))) ?_
        show Goes p e below (T105.setTop (mkF m 290 #[.val (.int p1), .val (.int p2), .val (.int p3), .val (.int (7 : Int32)), .val (.int (1 : Int32)), .val (.int (1 : Int32)), .val (.int (0 : Int32)), .val (.int (1 : Int32)), .val (.int (1 : Int32)), .val (.ref (w 5)), .val (.int (0 : Int32))] [(.int (1 : Int32))])) _
        refine Goes.by (fun _ kz => XS.goto X105.here hx rfl (pc0 := 290) (pc' := 294) rfl (hb hby at_290) (by decide) (by decide) kz) ?_
        show Goes p e below (T105.setTop (mkF m 294 #[.val (.int p1), .val (.int p2), .val (.int p3), .val (.int (7 : Int32)), .val (.int (1 : Int32)), .val (.int (1 : Int32)), .val (.int (0 : Int32)), .val (.int (1 : Int32)), .val (.int (1 : Int32)), .val (.ref (w 5)), .val (.int (0 : Int32))] [(.int (1 : Int32))])) _
        obtain ⟨fs, hr, hrun, hended, hW, hsame⟩ := X105.leave (v := some (.int (1 : Int32))) (fun h => by rw [Bd.returns] at h; cases h)
        exact ⟨_, _, retN X105 hx (t := .boolean) Bd.returns (by simp) (hb hby at_294) hr, hrun, hended, _, _, rfl, ⟨rfl, N105⟩, ⟨_, rfl⟩, hW, hsame.mono (by decide) (by decide)⟩
      · show Goes p e below (s₁.setTop (mkF m 65 #[.val (.int p1), .val (.int p2), .val (.int p3), .val (.int (8 : Int32)), .val (.int (1 : Int32)), .val (.int (1 : Int32)), .val (.int (0 : Int32)), .val (.int (1 : Int32)), .val (.int (1 : Int32)), .unset, .unset] [])) _
        refine Goes.by (fun _ kz => XS.iloadN X0.here hx rfl (hb hby at_65) rfl (XS.ifYes X0.here hx rfl (pc0 := 66) (pc' := 80) rfl (hb hby at_66) rfl ((if0 _ _).trans (feq (by decide : ¬ ((8 : Int32) = (0 : Int32)))).2) (by decide) (by decide) (XS.iloadN X0.here hx rfl (hb hby at_80) rfl kz))) ?_
        show Goes p e below (s₁.setTop (mkF m 81 #[.val (.int p1), .val (.int p2), .val (.int p3), .val (.int (8 : Int32)), .val (.int (1 : Int32)), .val (.int (1 : Int32)), .val (.int (0 : Int32)), .val (.int (1 : Int32)), .val (.int (1 : Int32)), .unset, .unset] [(.int (8 : Int32))])) _
        refine Goes.by (fun _ kz => XS.iconst X0.here hx rfl (hb hby at_81) (XS.icmpYes X0.here hx rfl (pc0 := 82) (pc' := 110) rfl (hb hby at_82) rfl (feq (by decide : ¬ ((8 : Int32) = (1 : Int32)))).2 (by decide) (by decide) (XS.iloadN X0.here hx rfl (hb hby at_110) rfl kz))) ?_
        show Goes p e below (s₁.setTop (mkF m 111 #[.val (.int p1), .val (.int p2), .val (.int p3), .val (.int (8 : Int32)), .val (.int (1 : Int32)), .val (.int (1 : Int32)), .val (.int (0 : Int32)), .val (.int (1 : Int32)), .val (.int (1 : Int32)), .unset, .unset] [(.int (8 : Int32))])) _
        refine Goes.by (fun _ kz => XS.iconst X0.here hx rfl (hb hby at_111) (XS.icmpYes X0.here hx rfl (pc0 := 112) (pc' := 140) rfl (hb hby at_112) rfl (feq (by decide : ¬ ((8 : Int32) = (2 : Int32)))).2 (by decide) (by decide) (XS.iloadN X0.here hx rfl (hb hby at_140) rfl kz))) ?_
        show Goes p e below (s₁.setTop (mkF m 141 #[.val (.int p1), .val (.int p2), .val (.int p3), .val (.int (8 : Int32)), .val (.int (1 : Int32)), .val (.int (1 : Int32)), .val (.int (0 : Int32)), .val (.int (1 : Int32)), .val (.int (1 : Int32)), .unset, .unset] [(.int (8 : Int32))])) _
        refine Goes.by (fun _ kz => XS.iconst X0.here hx rfl (hb hby at_141) (XS.icmpYes X0.here hx rfl (pc0 := 142) (pc' := 157) rfl (hb hby at_142) rfl (feq (by decide : ¬ ((8 : Int32) = (3 : Int32)))).2 (by decide) (by decide) (XS.iloadN X0.here hx rfl (hb hby at_157) rfl kz))) ?_
        show Goes p e below (s₁.setTop (mkF m 158 #[.val (.int p1), .val (.int p2), .val (.int p3), .val (.int (8 : Int32)), .val (.int (1 : Int32)), .val (.int (1 : Int32)), .val (.int (0 : Int32)), .val (.int (1 : Int32)), .val (.int (1 : Int32)), .unset, .unset] [(.int (8 : Int32))])) _
        refine Goes.by (fun _ kz => XS.iconst X0.here hx rfl (hb hby at_158) (XS.icmpYes X0.here hx rfl (pc0 := 159) (pc' := 187) rfl (hb hby at_159) rfl (feq (by decide : ¬ ((8 : Int32) = (4 : Int32)))).2 (by decide) (by decide) (XS.iloadN X0.here hx rfl (hb hby at_187) rfl kz))) ?_
        show Goes p e below (s₁.setTop (mkF m 188 #[.val (.int p1), .val (.int p2), .val (.int p3), .val (.int (8 : Int32)), .val (.int (1 : Int32)), .val (.int (1 : Int32)), .val (.int (0 : Int32)), .val (.int (1 : Int32)), .val (.int (1 : Int32)), .unset, .unset] [(.int (8 : Int32))])) _
        refine Goes.by (fun _ kz => XS.iconst X0.here hx rfl (hb hby at_188) (XS.icmpYes X0.here hx rfl (pc0 := 189) (pc' := 217) rfl (hb hby at_189) rfl (feq (by decide : ¬ ((8 : Int32) = (5 : Int32)))).2 (by decide) (by decide) (XS.iloadN X0.here hx rfl (hb hby at_217) rfl kz))) ?_
        show Goes p e below (s₁.setTop (mkF m 218 #[.val (.int p1), .val (.int p2), .val (.int p3), .val (.int (8 : Int32)), .val (.int (1 : Int32)), .val (.int (1 : Int32)), .val (.int (0 : Int32)), .val (.int (1 : Int32)), .val (.int (1 : Int32)), .unset, .unset] [(.int (8 : Int32))])) _
        refine Goes.by (fun _ kz => XS.bipush X0.here hx rfl (hb hby at_218) (XS.icmpYes X0.here hx rfl (pc0 := 220) (pc' := 235) rfl (hb hby at_220) rfl (feq (by decide : ¬ ((8 : Int32) = (6 : Int32)))).2 (by decide) (by decide) (XS.iloadN X0.here hx rfl (hb hby at_235) rfl kz))) ?_
        show Goes p e below (s₁.setTop (mkF m 236 #[.val (.int p1), .val (.int p2), .val (.int p3), .val (.int (8 : Int32)), .val (.int (1 : Int32)), .val (.int (1 : Int32)), .val (.int (0 : Int32)), .val (.int (1 : Int32)), .val (.int (1 : Int32)), .unset, .unset] [(.int (8 : Int32))])) _
        refine Goes.by (fun _ kz => XS.bipush X0.here hx rfl (hb hby at_236) (XS.icmpYes X0.here hx rfl (pc0 := 238) (pc' := 266) rfl (hb hby at_238) rfl (feq (by decide : ¬ ((8 : Int32) = (7 : Int32)))).2 (by decide) (by decide) kz)) ?_
        obtain ⟨T106, X106, e106, st106⟩ := getS2 X0 hx hZ hown (host := "") (Or.inl (hw _ (List.mem_of_getElem? (i := 17) rfl))) Via.refl e0 P.2.2.2.2.2.2.1 (g := (mkF m 266 #[.val (.int p1), .val (.int p2), .val (.int p3), .val (.int (8 : Int32)), .val (.int (1 : Int32)), .val (.int (1 : Int32)), .val (.int (0 : Int32)), .val (.int (1 : Int32)), .val (.int (1 : Int32)), .unset, .unset] [])) rfl (hb hby at_266)
        refine Goes.by st106 ?_
        refine Goes.by (fun _ kz => XS.astore X106.here hx rfl (hb hby at_269) rfl rfl (l' := #[.val (.int p1), .val (.int p2), .val (.int p3), .val (.int (8 : Int32)), .val (.int (1 : Int32)), .val (.int (1 : Int32)), .val (.int (0 : Int32)), .val (.int (1 : Int32)), .val (.int (1 : Int32)), .val (.ref (w 3)), .unset]) rfl (XS.iload X106.here hx rfl (hb hby at_271) rfl (XS.istore X106.here hx rfl (hb hby at_273) rfl (l' := #[.val (.int p1), .val (.int p2), .val (.int p3), .val (.int (8 : Int32)), .val (.int (1 : Int32)), .val (.int (1 : Int32)), .val (.int (0 : Int32)), .val (.int (1 : Int32)), .val (.int (1 : Int32)), .val (.ref (w 3)), .val (.int (0 : Int32))]) rfl kz))) ?_
        show Goes p e below (T106.setTop (mkF m 275 #[.val (.int p1), .val (.int p2), .val (.int p3), .val (.int (8 : Int32)), .val (.int (1 : Int32)), .val (.int (1 : Int32)), .val (.int (0 : Int32)), .val (.int (1 : Int32)), .val (.int (1 : Int32)), .val (.ref (w 3)), .val (.int (0 : Int32))] [])) _
        refine Goes.by (fun _ kz => XS.aload X106.here hx rfl (hb hby at_275) rfl rfl (XS.iload X106.here hx rfl (hb hby at_277) rfl (XS.iload X106.here hx rfl (hb hby at_279) rfl kz))) ?_
        obtain ⟨cq108, kq108, q108a, q108b, q108c⟩ := isOf hZ e106 P.2.2.2.2.2.2.2.1
        obtain ⟨_, _, ⟨T108, L108, k108, n108⟩, -, X108, ⟨Lc108, hQ108, l108, y108, z108⟩, st108⟩ := X106.virtualBack hx (y := (⟨"com/example/entail/entail/model/Scope", "reaches", "(IZ)Z"⟩ : MethodName)) (z := (⟨"com/example/entail/entail/model/Scope", "reaches", "(IZ)Z"⟩ : MethodName)) hown (mvT hZ (hw _ (List.mem_of_getElem? (i := 4) rfl))) (mvT hZ (hw _ (List.mem_of_getElem? (i := 5) rfl))) (notFace_of_selects (args := #[]) (mvT hZ (hw _ (List.mem_of_getElem? (i := 7) rfl)))) (mvT hZ (hw _ (List.mem_of_getElem? (i := 7) rfl))) (mvT hZ (hw _ (List.mem_of_getElem? (i := 6) rfl))) (by decide) (backOf (W := 0) (r1_35 l Z a0 hw [] h0 n0 Z0 w P) hZ (hw _ (List.mem_of_getElem? (i := 8) rfl)) (hw _ (List.mem_of_getElem? (i := 2) rfl)) (by decide) (by decide)) q108a q108c (g := (mkF m 281 #[.val (.int p1), .val (.int p2), .val (.int p3), .val (.int (8 : Int32)), .val (.int (1 : Int32)), .val (.int (1 : Int32)), .val (.int (0 : Int32)), .val (.int (1 : Int32)), .val (.int (1 : Int32)), .val (.ref (w 3)), .val (.int (0 : Int32))] [(.int (1 : Int32)), (.int (1 : Int32)), (.ref (w 3))])) rfl (by rw [hml]; rfl) (Steps.refl _) (argsL := [(.int (1 : Int32)), (.int (1 : Int32))]) (rest := []) (lenOf pd0 rfl) rfl (by show 2 * 0 + _ ≤ _; exact Nat.le_of_eq rfl) (hb hby at_281) (fun _ _ => ⟨rfl, e106, (by decide : 0 + 0 ≤ _), (by decide : 0 + 0 ≤ _)⟩)
        dsimp only [Pt.U, Pt.locs, Pt.cells, Pt.slots] at X108 l108 y108 z108 st108 hQ108
        subst l108 y108 z108
        obtain ⟨rfl, Nq108, e108⟩ := hQ108
        have N108 := Fr.app N0 Nq108
        refine Goes.tr st108 ?_
        refine Goes.by (fun _ kz => XS.iload X108.here hx rfl (hb hby at_284) rfl (XS.icmpNo X108.here hx rfl (hb hby at_286) rfl (teq (by decide : (0 : Int32) = (0 : Int32))).2 (XS.iconst X108.here hx rfl (hb hby at_289) kz))) ?_
        show Goes p e below (T108.setTop (mkF m 290 #[.val (.int p1), .val (.int p2), .val (.int p3), .val (.int (8 : Int32)), .val (.int (1 : Int32)), .val (.int (1 : Int32)), .val (.int (0 : Int32)), .val (.int (1 : Int32)), .val (.int (1 : Int32)), .val (.ref (w 3)), .val (.int (0 : Int32))] [(.int (1 : Int32))])) _
        refine Goes.by (fun _ kz => XS.goto X108.here hx rfl (pc0 := 290) (pc' := 294) rfl (hb hby at_290) (by decide) (by decide) kz) ?_
        show Goes p e below (T108.setTop (mkF m 294 #[.val (.int p1), .val (.int p2), .val (.int p3), .val (.int (8 : Int32)), .val (.int (1 : Int32)), .val (.int (1 : Int32)), .val (.int (0 : Int32)), .val (.int (1 : Int32)), .val (.int (1 : Int32)), .val (.ref (w 3)), .val (.int (0 : Int32))] [(.int (1 : Int32))])) _
        obtain ⟨fs, hr, hrun, hended, hW, hsame⟩ := X108.leave (v := some (.int (1 : Int32))) (fun h => by rw [Bd.returns] at h; cases h)
        exact ⟨_, _, retN X108 hx (t := .boolean) Bd.returns (by simp) (hb hby at_294) hr, hrun, hended, _, _, rfl, ⟨rfl, N108⟩, ⟨_, rfl⟩, hW, hsame.mono (by decide) (by decide)⟩
  · show Goes p e below (s₁.setTop (mkF m 14 #[.val (.int p1), .val (.int p2), .val (.int p3), .val (.int ((p1 &&& (2147483647 : Int32)) % (9 : Int32))), .val (.int n), .unset, .unset, .unset, .unset, .unset, .unset] [])) _
    refine Goes.by (fun _ kz => XS.iloadN X0.here hx rfl (hb hby at_14) rfl (XS.iconst X0.here hx rfl (hb hby at_15) (XS.iand X0.here hx rfl (hb hby at_16) rfl kz))) ?_
    show Goes p e below (s₁.setTop (mkF m 17 #[.val (.int p1), .val (.int p2), .val (.int p3), .val (.int ((p1 &&& (2147483647 : Int32)) % (9 : Int32))), .val (.int n), .unset, .unset, .unset, .unset, .unset, .unset] [(.int (p3 &&& (1 : Int32)))])) _
    rcases own_f p3 with hff | hff
    · rw [hff]
      show Goes p e below (s₁.setTop (mkF m 17 #[.val (.int p1), .val (.int p2), .val (.int p3), .val (.int ((p1 &&& (2147483647 : Int32)) % (9 : Int32))), .val (.int n), .unset, .unset, .unset, .unset, .unset, .unset] [(.int (0 : Int32))])) _
      refine Goes.by (fun _ kz => XS.ifYes X0.here hx rfl (pc0 := 17) (pc' := 24) rfl (hb hby at_17) rfl ((if0 _ _).trans (teq (by decide : (0 : Int32) = (0 : Int32))).1) (by decide) (by decide) (XS.iconst X0.here hx rfl (hb hby at_24) (XS.istore X0.here hx rfl (hb hby at_25) rfl (l' := #[.val (.int p1), .val (.int p2), .val (.int p3), .val (.int ((p1 &&& (2147483647 : Int32)) % (9 : Int32))), .val (.int n), .val (.int (0 : Int32)), .unset, .unset, .unset, .unset, .unset]) rfl kz))) ?_
      show Goes p e below (s₁.setTop (mkF m 27 #[.val (.int p1), .val (.int p2), .val (.int p3), .val (.int ((p1 &&& (2147483647 : Int32)) % (9 : Int32))), .val (.int n), .val (.int (0 : Int32)), .unset, .unset, .unset, .unset, .unset] [])) _
      refine Goes.by (fun _ kz => XS.iload X0.here hx rfl (hb hby at_27) rfl (XS.ifYes X0.here hx rfl (pc0 := 29) (pc' := 36) rfl (hb hby at_29) rfl ((if0 _ _).trans (feq hn0).2) (by decide) (by decide) (XS.iconst X0.here hx rfl (hb hby at_36) kz))) ?_
      show Goes p e below (s₁.setTop (mkF m 37 #[.val (.int p1), .val (.int p2), .val (.int p3), .val (.int ((p1 &&& (2147483647 : Int32)) % (9 : Int32))), .val (.int n), .val (.int (0 : Int32)), .unset, .unset, .unset, .unset, .unset] [(.int (0 : Int32))])) _
      refine Goes.by (fun _ kz => XS.istore X0.here hx rfl (hb hby at_37) rfl (l' := #[.val (.int p1), .val (.int p2), .val (.int p3), .val (.int ((p1 &&& (2147483647 : Int32)) % (9 : Int32))), .val (.int n), .val (.int (0 : Int32)), .val (.int (0 : Int32)), .unset, .unset, .unset, .unset]) rfl (XS.iload X0.here hx rfl (hb hby at_39) rfl (XS.iconst X0.here hx rfl (hb hby at_41) kz))) ?_
      show Goes p e below (s₁.setTop (mkF m 42 #[.val (.int p1), .val (.int p2), .val (.int p3), .val (.int ((p1 &&& (2147483647 : Int32)) % (9 : Int32))), .val (.int n), .val (.int (0 : Int32)), .val (.int (0 : Int32)), .unset, .unset, .unset, .unset] [(.int (1 : Int32)), (.int n)])) _
      refine Goes.by (fun _ kz => XS.icmpYes X0.here hx rfl (pc0 := 42) (pc' := 49) rfl (hb hby at_42) rfl (feq hn1).2 (by decide) (by decide) (XS.iconst X0.here hx rfl (hb hby at_49) (XS.istore X0.here hx rfl (hb hby at_50) rfl (l' := #[.val (.int p1), .val (.int p2), .val (.int p3), .val (.int ((p1 &&& (2147483647 : Int32)) % (9 : Int32))), .val (.int n), .val (.int (0 : Int32)), .val (.int (0 : Int32)), .val (.int (0 : Int32)), .unset, .unset, .unset]) rfl kz))) ?_
      show Goes p e below (s₁.setTop (mkF m 52 #[.val (.int p1), .val (.int p2), .val (.int p3), .val (.int ((p1 &&& (2147483647 : Int32)) % (9 : Int32))), .val (.int n), .val (.int (0 : Int32)), .val (.int (0 : Int32)), .val (.int (0 : Int32)), .unset, .unset, .unset] [])) _
      refine Goes.by (fun _ kz => XS.iload X0.here hx rfl (hb hby at_52) rfl (XS.iconst X0.here hx rfl (hb hby at_54) (XS.icmpNo X0.here hx rfl (hb hby at_55) rfl (flt hn2).1 kz))) ?_
      show Goes p e below (s₁.setTop (mkF m 58 #[.val (.int p1), .val (.int p2), .val (.int p3), .val (.int ((p1 &&& (2147483647 : Int32)) % (9 : Int32))), .val (.int n), .val (.int (0 : Int32)), .val (.int (0 : Int32)), .val (.int (0 : Int32)), .unset, .unset, .unset] [])) _
      refine Goes.by (fun _ kz => XS.iconst X0.here hx rfl (hb hby at_58) (XS.goto X0.here hx rfl (pc0 := 59) (pc' := 63) rfl (hb hby at_59) (by decide) (by decide) (XS.istore X0.here hx rfl (hb hby at_63) rfl (l' := #[.val (.int p1), .val (.int p2), .val (.int p3), .val (.int ((p1 &&& (2147483647 : Int32)) % (9 : Int32))), .val (.int n), .val (.int (0 : Int32)), .val (.int (0 : Int32)), .val (.int (0 : Int32)), .val (.int (1 : Int32)), .unset, .unset]) rfl kz))) ?_
      show Goes p e below (s₁.setTop (mkF m 65 #[.val (.int p1), .val (.int p2), .val (.int p3), .val (.int ((p1 &&& (2147483647 : Int32)) % (9 : Int32))), .val (.int n), .val (.int (0 : Int32)), .val (.int (0 : Int32)), .val (.int (0 : Int32)), .val (.int (1 : Int32)), .unset, .unset] [])) _
      have hsi := own_split p1
      obtain ⟨i, hi⟩ : ∃ z, z = ((p1 &&& (2147483647 : Int32)) % (9 : Int32)) := ⟨_, rfl⟩
      rw [← hi] at hsi ⊢
      rcases hsi with rfl | rfl | rfl | rfl | rfl | rfl | rfl | rfl | rfl
      · show Goes p e below (s₁.setTop (mkF m 65 #[.val (.int p1), .val (.int p2), .val (.int p3), .val (.int (0 : Int32)), .val (.int n), .val (.int (0 : Int32)), .val (.int (0 : Int32)), .val (.int (0 : Int32)), .val (.int (1 : Int32)), .unset, .unset] [])) _
        refine Goes.by (fun _ kz => XS.iloadN X0.here hx rfl (hb hby at_65) rfl (XS.ifNo X0.here hx rfl (hb hby at_66) rfl ((if0 _ _).trans (teq (by decide : (0 : Int32) = (0 : Int32))).2) kz)) ?_
        obtain ⟨T109, X109, e109, st109⟩ := getS2 X0 hx hZ hown (host := "") (Or.inl (hw _ (List.mem_of_getElem? (i := 1) rfl))) Via.refl e0 P.1 (g := (mkF m 69 #[.val (.int p1), .val (.int p2), .val (.int p3), .val (.int (0 : Int32)), .val (.int n), .val (.int (0 : Int32)), .val (.int (0 : Int32)), .val (.int (0 : Int32)), .val (.int (1 : Int32)), .unset, .unset] [])) rfl (hb hby at_69)
        refine Goes.by st109 ?_
        refine Goes.by (fun _ kz => XS.astore X109.here hx rfl (hb hby at_72) rfl rfl (l' := #[.val (.int p1), .val (.int p2), .val (.int p3), .val (.int (0 : Int32)), .val (.int n), .val (.int (0 : Int32)), .val (.int (0 : Int32)), .val (.int (0 : Int32)), .val (.int (1 : Int32)), .val (.ref (w 0)), .unset]) rfl (XS.iconst X109.here hx rfl (hb hby at_74) (XS.istore X109.here hx rfl (hb hby at_75) rfl (l' := #[.val (.int p1), .val (.int p2), .val (.int p3), .val (.int (0 : Int32)), .val (.int n), .val (.int (0 : Int32)), .val (.int (0 : Int32)), .val (.int (0 : Int32)), .val (.int (1 : Int32)), .val (.ref (w 0)), .val (.int (1 : Int32))]) rfl kz))) ?_
        show Goes p e below (T109.setTop (mkF m 77 #[.val (.int p1), .val (.int p2), .val (.int p3), .val (.int (0 : Int32)), .val (.int n), .val (.int (0 : Int32)), .val (.int (0 : Int32)), .val (.int (0 : Int32)), .val (.int (1 : Int32)), .val (.ref (w 0)), .val (.int (1 : Int32))] [])) _
        refine Goes.by (fun _ kz => XS.goto X109.here hx rfl (pc0 := 77) (pc' := 275) rfl (hb hby at_77) (by decide) (by decide) (XS.aload X109.here hx rfl (hb hby at_275) rfl rfl (XS.iload X109.here hx rfl (hb hby at_277) rfl kz))) ?_
        show Goes p e below (T109.setTop (mkF m 279 #[.val (.int p1), .val (.int p2), .val (.int p3), .val (.int (0 : Int32)), .val (.int n), .val (.int (0 : Int32)), .val (.int (0 : Int32)), .val (.int (0 : Int32)), .val (.int (1 : Int32)), .val (.ref (w 0)), .val (.int (1 : Int32))] [(.int n), (.ref (w 0))])) _
        refine Goes.by (fun _ kz => XS.iload X109.here hx rfl (hb hby at_279) rfl kz) ?_
        obtain ⟨cq111, kq111, q111a, q111b, q111c⟩ := isOf hZ e109 P.2.1
        obtain ⟨_, _, ⟨T111, L111, k111, n111⟩, -, X111, ⟨Lc111, hQ111, l111, y111, z111⟩, st111⟩ := X109.virtualBack hx (y := (⟨"com/example/entail/entail/model/Scope", "reaches", "(IZ)Z"⟩ : MethodName)) (z := (⟨"com/example/entail/entail/model/Scope", "reaches", "(IZ)Z"⟩ : MethodName)) hown (mvT hZ (hw _ (List.mem_of_getElem? (i := 4) rfl))) (mvT hZ (hw _ (List.mem_of_getElem? (i := 5) rfl))) (notFace_of_selects (args := #[]) (mvT hZ (hw _ (List.mem_of_getElem? (i := 7) rfl)))) (mvT hZ (hw _ (List.mem_of_getElem? (i := 7) rfl))) (mvT hZ (hw _ (List.mem_of_getElem? (i := 6) rfl))) (by decide) (backOf (W := 0) (r1_36 l Z a0 hw [] h0 n0 Z0 n w hn0 hn1 hn3 P) hZ (hw _ (List.mem_of_getElem? (i := 8) rfl)) (hw _ (List.mem_of_getElem? (i := 2) rfl)) (by decide) (by decide)) q111a q111c (g := (mkF m 281 #[.val (.int p1), .val (.int p2), .val (.int p3), .val (.int (0 : Int32)), .val (.int n), .val (.int (0 : Int32)), .val (.int (0 : Int32)), .val (.int (0 : Int32)), .val (.int (1 : Int32)), .val (.ref (w 0)), .val (.int (1 : Int32))] [(.int (0 : Int32)), (.int n), (.ref (w 0))])) rfl (by rw [hml]; rfl) (Steps.refl _) (argsL := [(.int n), (.int (0 : Int32))]) (rest := []) (lenOf pd0 rfl) rfl (by show 2 * 0 + _ ≤ _; exact Nat.le_of_eq rfl) (hb hby at_281) (fun _ _ => ⟨rfl, e109, (by decide : 0 + 0 ≤ _), (by decide : 0 + 0 ≤ _)⟩)
        dsimp only [Pt.U, Pt.locs, Pt.cells, Pt.slots] at X111 l111 y111 z111 st111 hQ111
        subst l111 y111 z111
        obtain ⟨rfl, Nq111, e111⟩ := hQ111
        have N111 := Fr.app N0 Nq111
        refine Goes.tr st111 ?_
        refine Goes.by (fun _ kz => XS.iload X111.here hx rfl (hb hby at_284) rfl (XS.icmpNo X111.here hx rfl (hb hby at_286) rfl (teq (by decide : (1 : Int32) = (1 : Int32))).2 (XS.iconst X111.here hx rfl (hb hby at_289) kz))) ?_
        show Goes p e below (T111.setTop (mkF m 290 #[.val (.int p1), .val (.int p2), .val (.int p3), .val (.int (0 : Int32)), .val (.int n), .val (.int (0 : Int32)), .val (.int (0 : Int32)), .val (.int (0 : Int32)), .val (.int (1 : Int32)), .val (.ref (w 0)), .val (.int (1 : Int32))] [(.int (1 : Int32))])) _
        refine Goes.by (fun _ kz => XS.goto X111.here hx rfl (pc0 := 290) (pc' := 294) rfl (hb hby at_290) (by decide) (by decide) kz) ?_
        show Goes p e below (T111.setTop (mkF m 294 #[.val (.int p1), .val (.int p2), .val (.int p3), .val (.int (0 : Int32)), .val (.int n), .val (.int (0 : Int32)), .val (.int (0 : Int32)), .val (.int (0 : Int32)), .val (.int (1 : Int32)), .val (.ref (w 0)), .val (.int (1 : Int32))] [(.int (1 : Int32))])) _
        obtain ⟨fs, hr, hrun, hended, hW, hsame⟩ := X111.leave (v := some (.int (1 : Int32))) (fun h => by rw [Bd.returns] at h; cases h)
        exact ⟨_, _, retN X111 hx (t := .boolean) Bd.returns (by simp) (hb hby at_294) hr, hrun, hended, _, _, rfl, ⟨rfl, N111⟩, ⟨_, rfl⟩, hW, hsame.mono (by decide) (by decide)⟩
      · show Goes p e below (s₁.setTop (mkF m 65 #[.val (.int p1), .val (.int p2), .val (.int p3), .val (.int (1 : Int32)), .val (.int n), .val (.int (0 : Int32)), .val (.int (0 : Int32)), .val (.int (0 : Int32)), .val (.int (1 : Int32)), .unset, .unset] [])) _
        refine Goes.by (fun _ kz => XS.iloadN X0.here hx rfl (hb hby at_65) rfl (XS.ifYes X0.here hx rfl (pc0 := 66) (pc' := 80) rfl (hb hby at_66) rfl ((if0 _ _).trans (feq (by decide : ¬ ((1 : Int32) = (0 : Int32)))).2) (by decide) (by decide) (XS.iloadN X0.here hx rfl (hb hby at_80) rfl kz))) ?_
        show Goes p e below (s₁.setTop (mkF m 81 #[.val (.int p1), .val (.int p2), .val (.int p3), .val (.int (1 : Int32)), .val (.int n), .val (.int (0 : Int32)), .val (.int (0 : Int32)), .val (.int (0 : Int32)), .val (.int (1 : Int32)), .unset, .unset] [(.int (1 : Int32))])) _
        refine Goes.by (fun _ kz => XS.iconst X0.here hx rfl (hb hby at_81) (XS.icmpNo X0.here hx rfl (hb hby at_82) rfl (teq (by decide : (1 : Int32) = (1 : Int32))).2 kz)) ?_
        obtain ⟨T112, X112, e112, st112⟩ := getS2 X0 hx hZ hown (host := "") (Or.inl (hw _ (List.mem_of_getElem? (i := 11) rfl))) Via.refl e0 P.2.2.1 (g := (mkF m 85 #[.val (.int p1), .val (.int p2), .val (.int p3), .val (.int (1 : Int32)), .val (.int n), .val (.int (0 : Int32)), .val (.int (0 : Int32)), .val (.int (0 : Int32)), .val (.int (1 : Int32)), .unset, .unset] [])) rfl (hb hby at_85)
        refine Goes.by st112 ?_
        refine Goes.by (fun _ kz => XS.astore X112.here hx rfl (hb hby at_88) rfl rfl (l' := #[.val (.int p1), .val (.int p2), .val (.int p3), .val (.int (1 : Int32)), .val (.int n), .val (.int (0 : Int32)), .val (.int (0 : Int32)), .val (.int (0 : Int32)), .val (.int (1 : Int32)), .val (.ref (w 1)), .unset]) rfl (XS.iload X112.here hx rfl (hb hby at_90) rfl (XS.ifNo X112.here hx rfl (hb hby at_92) rfl ((if0 _ _).trans (teq (by decide : (0 : Int32) = (0 : Int32))).2) kz))) ?_
        show Goes p e below (T112.setTop (mkF m 95 #[.val (.int p1), .val (.int p2), .val (.int p3), .val (.int (1 : Int32)), .val (.int n), .val (.int (0 : Int32)), .val (.int (0 : Int32)), .val (.int (0 : Int32)), .val (.int (1 : Int32)), .val (.ref (w 1)), .unset] [])) _
        refine Goes.by (fun _ kz => XS.iload X112.here hx rfl (hb hby at_95) rfl (XS.ifYes X112.here hx rfl (pc0 := 97) (pc' := 104) rfl (hb hby at_97) rfl ((if0 _ _).trans (teq (by decide : (0 : Int32) = (0 : Int32))).1) (by decide) (by decide) (XS.iconst X112.here hx rfl (hb hby at_104) kz))) ?_
        show Goes p e below (T112.setTop (mkF m 105 #[.val (.int p1), .val (.int p2), .val (.int p3), .val (.int (1 : Int32)), .val (.int n), .val (.int (0 : Int32)), .val (.int (0 : Int32)), .val (.int (0 : Int32)), .val (.int (1 : Int32)), .val (.ref (w 1)), .unset] [(.int (0 : Int32))])) _
        refine Goes.by (fun _ kz => XS.istore X112.here hx rfl (hb hby at_105) rfl (l' := #[.val (.int p1), .val (.int p2), .val (.int p3), .val (.int (1 : Int32)), .val (.int n), .val (.int (0 : Int32)), .val (.int (0 : Int32)), .val (.int (0 : Int32)), .val (.int (1 : Int32)), .val (.ref (w 1)), .val (.int (0 : Int32))]) rfl (XS.goto X112.here hx rfl (pc0 := 107) (pc' := 275) rfl (hb hby at_107) (by decide) (by decide) (XS.aload X112.here hx rfl (hb hby at_275) rfl rfl kz))) ?_
        show Goes p e below (T112.setTop (mkF m 277 #[.val (.int p1), .val (.int p2), .val (.int p3), .val (.int (1 : Int32)), .val (.int n), .val (.int (0 : Int32)), .val (.int (0 : Int32)), .val (.int (0 : Int32)), .val (.int (1 : Int32)), .val (.ref (w 1)), .val (.int (0 : Int32))] [(.ref (w 1))])) _
        refine Goes.by (fun _ kz => XS.iload X112.here hx rfl (hb hby at_277) rfl (XS.iload X112.here hx rfl (hb hby at_279) rfl kz)) ?_
        obtain ⟨cq114, kq114, q114a, q114b, q114c⟩ := isOf hZ e112 P.2.2.2.1
        obtain ⟨_, _, ⟨T114, L114, k114, n114⟩, -, X114, ⟨Lc114, hQ114, l114, y114, z114⟩, st114⟩ := X112.virtualBack hx (y := (⟨"com/example/entail/entail/model/Scope", "reaches", "(IZ)Z"⟩ : MethodName)) (z := (⟨"com/example/entail/entail/model/Scope", "reaches", "(IZ)Z"⟩ : MethodName)) hown (mvT hZ (hw _ (List.mem_of_getElem? (i := 4) rfl))) (mvT hZ (hw _ (List.mem_of_getElem? (i := 5) rfl))) (notFace_of_selects (args := #[]) (mvT hZ (hw _ (List.mem_of_getElem? (i := 7) rfl)))) (mvT hZ (hw _ (List.mem_of_getElem? (i := 7) rfl))) (mvT hZ (hw _ (List.mem_of_getElem? (i := 6) rfl))) (by decide) (backOf (W := 0) (r1_37 l Z a0 hw [] h0 n0 Z0 n w hn0 hn1 hn3 P) hZ (hw _ (List.mem_of_getElem? (i := 8) rfl)) (hw _ (List.mem_of_getElem? (i := 2) rfl)) (by decide) (by decide)) q114a q114c (g := (mkF m 281 #[.val (.int p1), .val (.int p2), .val (.int p3), .val (.int (1 : Int32)), .val (.int n), .val (.int (0 : Int32)), .val (.int (0 : Int32)), .val (.int (0 : Int32)), .val (.int (1 : Int32)), .val (.ref (w 1)), .val (.int (0 : Int32))] [(.int (0 : Int32)), (.int n), (.ref (w 1))])) rfl (by rw [hml]; rfl) (Steps.refl _) (argsL := [(.int n), (.int (0 : Int32))]) (rest := []) (lenOf pd0 rfl) rfl (by show 2 * 0 + _ ≤ _; exact Nat.le_of_eq rfl) (hb hby at_281) (fun _ _ => ⟨rfl, e112, (by decide : 0 + 0 ≤ _), (by decide : 0 + 0 ≤ _)⟩)
        dsimp only [Pt.U, Pt.locs, Pt.cells, Pt.slots] at X114 l114 y114 z114 st114 hQ114
        subst l114 y114 z114
        obtain ⟨rfl, Nq114, e114⟩ := hQ114
        have N114 := Fr.app N0 Nq114
        refine Goes.tr st114 ?_
        refine Goes.by (fun _ kz => XS.iload X114.here hx rfl (hb hby at_284) rfl (XS.icmpNo X114.here hx rfl (hb hby at_286) rfl (teq (by decide : (0 : Int32) = (0 : Int32))).2 (XS.iconst X114.here hx rfl (hb hby at_289) kz))) ?_
        show Goes p e below (T114.setTop (mkF m 290 #[.val (.int p1), .val (.int p2), .val (.int p3), .val (.int (1 : Int32)), .val (.int n), .val (.int (0 : Int32)), .val (.int (0 : Int32)), .val (.int (0 : Int32)), .val (.int (1 : Int32)), .val (.ref (w 1)), .val (.int (0 : Int32))] [(.int (1 : Int32))])) _
        refine Goes.by (fun _ kz => XS.goto X114.here hx rfl (pc0 := 290) (pc' := 294) rfl (hb hby at_290) (by decide) (by decide) kz) ?_
        show Goes p e below (T114.setTop (mkF m 294 #[.val (.int p1), .val (.int p2), .val (.int p3), .val (.int (1 : Int32)), .val (.int n), .val (.int (0 : Int32)), .val (.int (0 : Int32)), .val (.int (0 : Int32)), .val (.int (1 : Int32)), .val (.ref (w 1)), .val (.int (0 : Int32))] [(.int (1 : Int32))])) _
        obtain ⟨fs, hr, hrun, hended, hW, hsame⟩ := X114.leave (v := some (.int (1 : Int32))) (fun h => by rw [Bd.returns] at h; cases h)
        exact ⟨_, _, retN X114 hx (t := .boolean) Bd.returns (by simp) (hb hby at_294) hr, hrun, hended, _, _, rfl, ⟨rfl, N114⟩, ⟨_, rfl⟩, hW, hsame.mono (by decide) (by decide)⟩
      · show Goes p e below (s₁.setTop (mkF m 65 #[.val (.int p1), .val (.int p2), .val (.int p3), .val (.int (2 : Int32)), .val (.int n), .val (.int (0 : Int32)), .val (.int (0 : Int32)), .val (.int (0 : Int32)), .val (.int (1 : Int32)), .unset, .unset] [])) _
        refine Goes.by (fun _ kz => XS.iloadN X0.here hx rfl (hb hby at_65) rfl (XS.ifYes X0.here hx rfl (pc0 := 66) (pc' := 80) rfl (hb hby at_66) rfl ((if0 _ _).trans (feq (by decide : ¬ ((2 : Int32) = (0 : Int32)))).2) (by decide) (by decide) (XS.iloadN X0.here hx rfl (hb hby at_80) rfl kz))) ?_
        show Goes p e below (s₁.setTop (mkF m 81 #[.val (.int p1), .val (.int p2), .val (.int p3), .val (.int (2 : Int32)), .val (.int n), .val (.int (0 : Int32)), .val (.int (0 : Int32)), .val (.int (0 : Int32)), .val (.int (1 : Int32)), .unset, .unset] [(.int (2 : Int32))])) _
        refine Goes.by (fun _ kz => XS.iconst X0.here hx rfl (hb hby at_81) (XS.icmpYes X0.here hx rfl (pc0 := 82) (pc' := 110) rfl (hb hby at_82) rfl (feq (by decide : ¬ ((2 : Int32) = (1 : Int32)))).2 (by decide) (by decide) (XS.iloadN X0.here hx rfl (hb hby at_110) rfl kz))) ?_
        show Goes p e below (s₁.setTop (mkF m 111 #[.val (.int p1), .val (.int p2), .val (.int p3), .val (.int (2 : Int32)), .val (.int n), .val (.int (0 : Int32)), .val (.int (0 : Int32)), .val (.int (0 : Int32)), .val (.int (1 : Int32)), .unset, .unset] [(.int (2 : Int32))])) _
        refine Goes.by (fun _ kz => XS.iconst X0.here hx rfl (hb hby at_111) (XS.icmpNo X0.here hx rfl (hb hby at_112) rfl (teq (by decide : (2 : Int32) = (2 : Int32))).2 kz)) ?_
        obtain ⟨T115, X115, e115, st115⟩ := getS2 X0 hx hZ hown (host := "") (Or.inl (hw _ (List.mem_of_getElem? (i := 15) rfl))) Via.refl e0 P.2.2.2.2.1 (g := (mkF m 115 #[.val (.int p1), .val (.int p2), .val (.int p3), .val (.int (2 : Int32)), .val (.int n), .val (.int (0 : Int32)), .val (.int (0 : Int32)), .val (.int (0 : Int32)), .val (.int (1 : Int32)), .unset, .unset] [])) rfl (hb hby at_115)
        refine Goes.by st115 ?_
        refine Goes.by (fun _ kz => XS.astore X115.here hx rfl (hb hby at_118) rfl rfl (l' := #[.val (.int p1), .val (.int p2), .val (.int p3), .val (.int (2 : Int32)), .val (.int n), .val (.int (0 : Int32)), .val (.int (0 : Int32)), .val (.int (0 : Int32)), .val (.int (1 : Int32)), .val (.ref (w 2)), .unset]) rfl (XS.iload X115.here hx rfl (hb hby at_120) rfl (XS.ifNo X115.here hx rfl (hb hby at_122) rfl ((if0 _ _).trans (teq (by decide : (0 : Int32) = (0 : Int32))).2) kz))) ?_
        show Goes p e below (T115.setTop (mkF m 125 #[.val (.int p1), .val (.int p2), .val (.int p3), .val (.int (2 : Int32)), .val (.int n), .val (.int (0 : Int32)), .val (.int (0 : Int32)), .val (.int (0 : Int32)), .val (.int (1 : Int32)), .val (.ref (w 2)), .unset] [])) _
        refine Goes.by (fun _ kz => XS.iload X115.here hx rfl (hb hby at_125) rfl (XS.ifYes X115.here hx rfl (pc0 := 127) (pc' := 134) rfl (hb hby at_127) rfl ((if0 _ _).trans (teq (by decide : (0 : Int32) = (0 : Int32))).1) (by decide) (by decide) (XS.iconst X115.here hx rfl (hb hby at_134) kz))) ?_
        show Goes p e below (T115.setTop (mkF m 135 #[.val (.int p1), .val (.int p2), .val (.int p3), .val (.int (2 : Int32)), .val (.int n), .val (.int (0 : Int32)), .val (.int (0 : Int32)), .val (.int (0 : Int32)), .val (.int (1 : Int32)), .val (.ref (w 2)), .unset] [(.int (0 : Int32))])) _
        refine Goes.by (fun _ kz => XS.istore X115.here hx rfl (hb hby at_135) rfl (l' := #[.val (.int p1), .val (.int p2), .val (.int p3), .val (.int (2 : Int32)), .val (.int n), .val (.int (0 : Int32)), .val (.int (0 : Int32)), .val (.int (0 : Int32)), .val (.int (1 : Int32)), .val (.ref (w 2)), .val (.int (0 : Int32))]) rfl (XS.goto X115.here hx rfl (pc0 := 137) (pc' := 275) rfl (hb hby at_137) (by decide) (by decide) (XS.aload X115.here hx rfl (hb hby at_275) rfl rfl kz))) ?_
        show Goes p e below (T115.setTop (mkF m 277 #[.val (.int p1), .val (.int p2), .val (.int p3), .val (.int (2 : Int32)), .val (.int n), .val (.int (0 : Int32)), .val (.int (0 : Int32)), .val (.int (0 : Int32)), .val (.int (1 : Int32)), .val (.ref (w 2)), .val (.int (0 : Int32))] [(.ref (w 2))])) _
        refine Goes.by (fun _ kz => XS.iload X115.here hx rfl (hb hby at_277) rfl (XS.iload X115.here hx rfl (hb hby at_279) rfl kz)) ?_
        obtain ⟨cq117, kq117, q117a, q117b, q117c⟩ := isOf hZ e115 P.2.2.2.2.2.1
        obtain ⟨_, _, ⟨T117, L117, k117, n117⟩, -, X117, ⟨Lc117, hQ117, l117, y117, z117⟩, st117⟩ := X115.virtualBack hx (y := (⟨"com/example/entail/entail/model/Scope", "reaches", "(IZ)Z"⟩ : MethodName)) (z := (⟨"com/example/entail/entail/model/Scope", "reaches", "(IZ)Z"⟩ : MethodName)) hown (mvT hZ (hw _ (List.mem_of_getElem? (i := 4) rfl))) (mvT hZ (hw _ (List.mem_of_getElem? (i := 5) rfl))) (notFace_of_selects (args := #[]) (mvT hZ (hw _ (List.mem_of_getElem? (i := 7) rfl)))) (mvT hZ (hw _ (List.mem_of_getElem? (i := 7) rfl))) (mvT hZ (hw _ (List.mem_of_getElem? (i := 6) rfl))) (by decide) (backOf (W := 0) (r1_38 l Z a0 hw [] h0 n0 Z0 n w hn0 hn1 hn3 P) hZ (hw _ (List.mem_of_getElem? (i := 8) rfl)) (hw _ (List.mem_of_getElem? (i := 2) rfl)) (by decide) (by decide)) q117a q117c (g := (mkF m 281 #[.val (.int p1), .val (.int p2), .val (.int p3), .val (.int (2 : Int32)), .val (.int n), .val (.int (0 : Int32)), .val (.int (0 : Int32)), .val (.int (0 : Int32)), .val (.int (1 : Int32)), .val (.ref (w 2)), .val (.int (0 : Int32))] [(.int (0 : Int32)), (.int n), (.ref (w 2))])) rfl (by rw [hml]; rfl) (Steps.refl _) (argsL := [(.int n), (.int (0 : Int32))]) (rest := []) (lenOf pd0 rfl) rfl (by show 2 * 0 + _ ≤ _; exact Nat.le_of_eq rfl) (hb hby at_281) (fun _ _ => ⟨rfl, e115, (by decide : 0 + 0 ≤ _), (by decide : 0 + 0 ≤ _)⟩)
        dsimp only [Pt.U, Pt.locs, Pt.cells, Pt.slots] at X117 l117 y117 z117 st117 hQ117
        subst l117 y117 z117
        obtain ⟨rfl, Nq117, e117⟩ := hQ117
        have N117 := Fr.app N0 Nq117
        refine Goes.tr st117 ?_
        refine Goes.by (fun _ kz => XS.iload X117.here hx rfl (hb hby at_284) rfl (XS.icmpNo X117.here hx rfl (hb hby at_286) rfl (teq (by decide : (0 : Int32) = (0 : Int32))).2 (XS.iconst X117.here hx rfl (hb hby at_289) kz))) ?_
        show Goes p e below (T117.setTop (mkF m 290 #[.val (.int p1), .val (.int p2), .val (.int p3), .val (.int (2 : Int32)), .val (.int n), .val (.int (0 : Int32)), .val (.int (0 : Int32)), .val (.int (0 : Int32)), .val (.int (1 : Int32)), .val (.ref (w 2)), .val (.int (0 : Int32))] [(.int (1 : Int32))])) _
        refine Goes.by (fun _ kz => XS.goto X117.here hx rfl (pc0 := 290) (pc' := 294) rfl (hb hby at_290) (by decide) (by decide) kz) ?_
        show Goes p e below (T117.setTop (mkF m 294 #[.val (.int p1), .val (.int p2), .val (.int p3), .val (.int (2 : Int32)), .val (.int n), .val (.int (0 : Int32)), .val (.int (0 : Int32)), .val (.int (0 : Int32)), .val (.int (1 : Int32)), .val (.ref (w 2)), .val (.int (0 : Int32))] [(.int (1 : Int32))])) _
        obtain ⟨fs, hr, hrun, hended, hW, hsame⟩ := X117.leave (v := some (.int (1 : Int32))) (fun h => by rw [Bd.returns] at h; cases h)
        exact ⟨_, _, retN X117 hx (t := .boolean) Bd.returns (by simp) (hb hby at_294) hr, hrun, hended, _, _, rfl, ⟨rfl, N117⟩, ⟨_, rfl⟩, hW, hsame.mono (by decide) (by decide)⟩
      · show Goes p e below (s₁.setTop (mkF m 65 #[.val (.int p1), .val (.int p2), .val (.int p3), .val (.int (3 : Int32)), .val (.int n), .val (.int (0 : Int32)), .val (.int (0 : Int32)), .val (.int (0 : Int32)), .val (.int (1 : Int32)), .unset, .unset] [])) _
        refine Goes.by (fun _ kz => XS.iloadN X0.here hx rfl (hb hby at_65) rfl (XS.ifYes X0.here hx rfl (pc0 := 66) (pc' := 80) rfl (hb hby at_66) rfl ((if0 _ _).trans (feq (by decide : ¬ ((3 : Int32) = (0 : Int32)))).2) (by decide) (by decide) (XS.iloadN X0.here hx rfl (hb hby at_80) rfl kz))) ?_
        show Goes p e below (s₁.setTop (mkF m 81 #[.val (.int p1), .val (.int p2), .val (.int p3), .val (.int (3 : Int32)), .val (.int n), .val (.int (0 : Int32)), .val (.int (0 : Int32)), .val (.int (0 : Int32)), .val (.int (1 : Int32)), .unset, .unset] [(.int (3 : Int32))])) _
        refine Goes.by (fun _ kz => XS.iconst X0.here hx rfl (hb hby at_81) (XS.icmpYes X0.here hx rfl (pc0 := 82) (pc' := 110) rfl (hb hby at_82) rfl (feq (by decide : ¬ ((3 : Int32) = (1 : Int32)))).2 (by decide) (by decide) (XS.iloadN X0.here hx rfl (hb hby at_110) rfl kz))) ?_
        show Goes p e below (s₁.setTop (mkF m 111 #[.val (.int p1), .val (.int p2), .val (.int p3), .val (.int (3 : Int32)), .val (.int n), .val (.int (0 : Int32)), .val (.int (0 : Int32)), .val (.int (0 : Int32)), .val (.int (1 : Int32)), .unset, .unset] [(.int (3 : Int32))])) _
        refine Goes.by (fun _ kz => XS.iconst X0.here hx rfl (hb hby at_111) (XS.icmpYes X0.here hx rfl (pc0 := 112) (pc' := 140) rfl (hb hby at_112) rfl (feq (by decide : ¬ ((3 : Int32) = (2 : Int32)))).2 (by decide) (by decide) (XS.iloadN X0.here hx rfl (hb hby at_140) rfl kz))) ?_
        show Goes p e below (s₁.setTop (mkF m 141 #[.val (.int p1), .val (.int p2), .val (.int p3), .val (.int (3 : Int32)), .val (.int n), .val (.int (0 : Int32)), .val (.int (0 : Int32)), .val (.int (0 : Int32)), .val (.int (1 : Int32)), .unset, .unset] [(.int (3 : Int32))])) _
        refine Goes.by (fun _ kz => XS.iconst X0.here hx rfl (hb hby at_141) (XS.icmpNo X0.here hx rfl (hb hby at_142) rfl (teq (by decide : (3 : Int32) = (3 : Int32))).2 kz)) ?_
        obtain ⟨T118, X118, e118, st118⟩ := getS2 X0 hx hZ hown (host := "") (Or.inl (hw _ (List.mem_of_getElem? (i := 25) rfl))) Via.refl e0 P.2.2.2.2.2.2.2.2.2.2.2.2.1 (g := (mkF m 145 #[.val (.int p1), .val (.int p2), .val (.int p3), .val (.int (3 : Int32)), .val (.int n), .val (.int (0 : Int32)), .val (.int (0 : Int32)), .val (.int (0 : Int32)), .val (.int (1 : Int32)), .unset, .unset] [])) rfl (hb hby at_145)
        refine Goes.by st118 ?_
        refine Goes.by (fun _ kz => XS.astore X118.here hx rfl (hb hby at_148) rfl rfl (l' := #[.val (.int p1), .val (.int p2), .val (.int p3), .val (.int (3 : Int32)), .val (.int n), .val (.int (0 : Int32)), .val (.int (0 : Int32)), .val (.int (0 : Int32)), .val (.int (1 : Int32)), .val (.ref (w 6)), .unset]) rfl (XS.iload X118.here hx rfl (hb hby at_150) rfl (XS.istore X118.here hx rfl (hb hby at_152) rfl (l' := #[.val (.int p1), .val (.int p2), .val (.int p3), .val (.int (3 : Int32)), .val (.int n), .val (.int (0 : Int32)), .val (.int (0 : Int32)), .val (.int (0 : Int32)), .val (.int (1 : Int32)), .val (.ref (w 6)), .val (.int (1 : Int32))]) rfl kz))) ?_
        show Goes p e below (T118.setTop (mkF m 154 #[.val (.int p1), .val (.int p2), .val (.int p3), .val (.int (3 : Int32)), .val (.int n), .val (.int (0 : Int32)), .val (.int (0 : Int32)), .val (.int (0 : Int32)), .val (.int (1 : Int32)), .val (.ref (w 6)), .val (.int (1 : Int32))] [])) _
        refine Goes.by (fun _ kz => XS.goto X118.here hx rfl (pc0 := 154) (pc' := 275) rfl (hb hby at_154) (by decide) (by decide) (XS.aload X118.here hx rfl (hb hby at_275) rfl rfl (XS.iload X118.here hx rfl (hb hby at_277) rfl kz))) ?_
        show Goes p e below (T118.setTop (mkF m 279 #[.val (.int p1), .val (.int p2), .val (.int p3), .val (.int (3 : Int32)), .val (.int n), .val (.int (0 : Int32)), .val (.int (0 : Int32)), .val (.int (0 : Int32)), .val (.int (1 : Int32)), .val (.ref (w 6)), .val (.int (1 : Int32))] [(.int n), (.ref (w 6))])) _
        refine Goes.by (fun _ kz => XS.iload X118.here hx rfl (hb hby at_279) rfl kz) ?_
        obtain ⟨cq120, kq120, q120a, q120b, q120c⟩ := isOf hZ e118 P.2.2.2.2.2.2.2.2.2.2.2.2.2.1
        obtain ⟨_, _, ⟨T120, L120, k120, n120⟩, -, X120, ⟨Lc120, hQ120, l120, y120, z120⟩, st120⟩ := X118.virtualBack hx (y := (⟨"com/example/entail/entail/model/Scope", "reaches", "(IZ)Z"⟩ : MethodName)) (z := (⟨"com/example/entail/entail/model/Scope", "reaches", "(IZ)Z"⟩ : MethodName)) hown (mvT hZ (hw _ (List.mem_of_getElem? (i := 4) rfl))) (mvT hZ (hw _ (List.mem_of_getElem? (i := 5) rfl))) (notFace_of_selects (args := #[]) (mvT hZ (hw _ (List.mem_of_getElem? (i := 7) rfl)))) (mvT hZ (hw _ (List.mem_of_getElem? (i := 7) rfl))) (mvT hZ (hw _ (List.mem_of_getElem? (i := 6) rfl))) (by decide) (backOf (W := 0) (r1_39 l Z a0 hw [] h0 n0 Z0 n w hn0 hn1 hn3 P) hZ (hw _ (List.mem_of_getElem? (i := 8) rfl)) (hw _ (List.mem_of_getElem? (i := 2) rfl)) (by decide) (by decide)) q120a q120c (g := (mkF m 281 #[.val (.int p1), .val (.int p2), .val (.int p3), .val (.int (3 : Int32)), .val (.int n), .val (.int (0 : Int32)), .val (.int (0 : Int32)), .val (.int (0 : Int32)), .val (.int (1 : Int32)), .val (.ref (w 6)), .val (.int (1 : Int32))] [(.int (0 : Int32)), (.int n), (.ref (w 6))])) rfl (by rw [hml]; rfl) (Steps.refl _) (argsL := [(.int n), (.int (0 : Int32))]) (rest := []) (lenOf pd0 rfl) rfl (by show 2 * 0 + _ ≤ _; exact Nat.le_of_eq rfl) (hb hby at_281) (fun _ _ => ⟨rfl, e118, (by decide : 0 + 0 ≤ _), (by decide : 0 + 0 ≤ _)⟩)
        dsimp only [Pt.U, Pt.locs, Pt.cells, Pt.slots] at X120 l120 y120 z120 st120 hQ120
        subst l120 y120 z120
        obtain ⟨rfl, Nq120, e120⟩ := hQ120
        have N120 := Fr.app N0 Nq120
        refine Goes.tr st120 ?_
        refine Goes.by (fun _ kz => XS.iload X120.here hx rfl (hb hby at_284) rfl (XS.icmpNo X120.here hx rfl (hb hby at_286) rfl (teq (by decide : (1 : Int32) = (1 : Int32))).2 (XS.iconst X120.here hx rfl (hb hby at_289) kz))) ?_
        show Goes p e below (T120.setTop (mkF m 290 #[.val (.int p1), .val (.int p2), .val (.int p3), .val (.int (3 : Int32)), .val (.int n), .val (.int (0 : Int32)), .val (.int (0 : Int32)), .val (.int (0 : Int32)), .val (.int (1 : Int32)), .val (.ref (w 6)), .val (.int (1 : Int32))] [(.int (1 : Int32))])) _
        refine Goes.by (fun _ kz => XS.goto X120.here hx rfl (pc0 := 290) (pc' := 294) rfl (hb hby at_290) (by decide) (by decide) kz) ?_
        show Goes p e below (T120.setTop (mkF m 294 #[.val (.int p1), .val (.int p2), .val (.int p3), .val (.int (3 : Int32)), .val (.int n), .val (.int (0 : Int32)), .val (.int (0 : Int32)), .val (.int (0 : Int32)), .val (.int (1 : Int32)), .val (.ref (w 6)), .val (.int (1 : Int32))] [(.int (1 : Int32))])) _
        obtain ⟨fs, hr, hrun, hended, hW, hsame⟩ := X120.leave (v := some (.int (1 : Int32))) (fun h => by rw [Bd.returns] at h; cases h)
        exact ⟨_, _, retN X120 hx (t := .boolean) Bd.returns (by simp) (hb hby at_294) hr, hrun, hended, _, _, rfl, ⟨rfl, N120⟩, ⟨_, rfl⟩, hW, hsame.mono (by decide) (by decide)⟩
      · show Goes p e below (s₁.setTop (mkF m 65 #[.val (.int p1), .val (.int p2), .val (.int p3), .val (.int (4 : Int32)), .val (.int n), .val (.int (0 : Int32)), .val (.int (0 : Int32)), .val (.int (0 : Int32)), .val (.int (1 : Int32)), .unset, .unset] [])) _
        refine Goes.by (fun _ kz => XS.iloadN X0.here hx rfl (hb hby at_65) rfl (XS.ifYes X0.here hx rfl (pc0 := 66) (pc' := 80) rfl (hb hby at_66) rfl ((if0 _ _).trans (feq (by decide : ¬ ((4 : Int32) = (0 : Int32)))).2) (by decide) (by decide) (XS.iloadN X0.here hx rfl (hb hby at_80) rfl kz))) ?_
        show Goes p e below (s₁.setTop (mkF m 81 #[.val (.int p1), .val (.int p2), .val (.int p3), .val (.int (4 : Int32)), .val (.int n), .val (.int (0 : Int32)), .val (.int (0 : Int32)), .val (.int (0 : Int32)), .val (.int (1 : Int32)), .unset, .unset] [(.int (4 : Int32))])) _
        refine Goes.by (fun _ kz => XS.iconst X0.here hx rfl (hb hby at_81) (XS.icmpYes X0.here hx rfl (pc0 := 82) (pc' := 110) rfl (hb hby at_82) rfl (feq (by decide : ¬ ((4 : Int32) = (1 : Int32)))).2 (by decide) (by decide) (XS.iloadN X0.here hx rfl (hb hby at_110) rfl kz))) ?_
        show Goes p e below (s₁.setTop (mkF m 111 #[.val (.int p1), .val (.int p2), .val (.int p3), .val (.int (4 : Int32)), .val (.int n), .val (.int (0 : Int32)), .val (.int (0 : Int32)), .val (.int (0 : Int32)), .val (.int (1 : Int32)), .unset, .unset] [(.int (4 : Int32))])) _
        refine Goes.by (fun _ kz => XS.iconst X0.here hx rfl (hb hby at_111) (XS.icmpYes X0.here hx rfl (pc0 := 112) (pc' := 140) rfl (hb hby at_112) rfl (feq (by decide : ¬ ((4 : Int32) = (2 : Int32)))).2 (by decide) (by decide) (XS.iloadN X0.here hx rfl (hb hby at_140) rfl kz))) ?_
        show Goes p e below (s₁.setTop (mkF m 141 #[.val (.int p1), .val (.int p2), .val (.int p3), .val (.int (4 : Int32)), .val (.int n), .val (.int (0 : Int32)), .val (.int (0 : Int32)), .val (.int (0 : Int32)), .val (.int (1 : Int32)), .unset, .unset] [(.int (4 : Int32))])) _
        refine Goes.by (fun _ kz => XS.iconst X0.here hx rfl (hb hby at_141) (XS.icmpYes X0.here hx rfl (pc0 := 142) (pc' := 157) rfl (hb hby at_142) rfl (feq (by decide : ¬ ((4 : Int32) = (3 : Int32)))).2 (by decide) (by decide) (XS.iloadN X0.here hx rfl (hb hby at_157) rfl kz))) ?_
        show Goes p e below (s₁.setTop (mkF m 158 #[.val (.int p1), .val (.int p2), .val (.int p3), .val (.int (4 : Int32)), .val (.int n), .val (.int (0 : Int32)), .val (.int (0 : Int32)), .val (.int (0 : Int32)), .val (.int (1 : Int32)), .unset, .unset] [(.int (4 : Int32))])) _
        refine Goes.by (fun _ kz => XS.iconst X0.here hx rfl (hb hby at_158) (XS.icmpNo X0.here hx rfl (hb hby at_159) rfl (teq (by decide : (4 : Int32) = (4 : Int32))).2 kz)) ?_
        obtain ⟨T121, X121, e121, st121⟩ := getS2 X0 hx hZ hown (host := "") (Or.inl (hw _ (List.mem_of_getElem? (i := 29) rfl))) Via.refl e0 P.2.2.2.2.2.2.2.2.2.2.2.2.2.2.1 (g := (mkF m 162 #[.val (.int p1), .val (.int p2), .val (.int p3), .val (.int (4 : Int32)), .val (.int n), .val (.int (0 : Int32)), .val (.int (0 : Int32)), .val (.int (0 : Int32)), .val (.int (1 : Int32)), .unset, .unset] [])) rfl (hb hby at_162)
        refine Goes.by st121 ?_
        refine Goes.by (fun _ kz => XS.astore X121.here hx rfl (hb hby at_165) rfl rfl (l' := #[.val (.int p1), .val (.int p2), .val (.int p3), .val (.int (4 : Int32)), .val (.int n), .val (.int (0 : Int32)), .val (.int (0 : Int32)), .val (.int (0 : Int32)), .val (.int (1 : Int32)), .val (.ref (w 7)), .unset]) rfl (XS.iload X121.here hx rfl (hb hby at_167) rfl (XS.ifNo X121.here hx rfl (hb hby at_169) rfl ((if0 _ _).trans (feq (by decide : ¬ ((1 : Int32) = (0 : Int32)))).1) kz))) ?_
        show Goes p e below (T121.setTop (mkF m 172 #[.val (.int p1), .val (.int p2), .val (.int p3), .val (.int (4 : Int32)), .val (.int n), .val (.int (0 : Int32)), .val (.int (0 : Int32)), .val (.int (0 : Int32)), .val (.int (1 : Int32)), .val (.ref (w 7)), .unset] [])) _
        refine Goes.by (fun _ kz => XS.iload X121.here hx rfl (hb hby at_172) rfl (XS.ifYes X121.here hx rfl (pc0 := 174) (pc' := 181) rfl (hb hby at_174) rfl ((if0 _ _).trans (teq (by decide : (0 : Int32) = (0 : Int32))).1) (by decide) (by decide) (XS.iconst X121.here hx rfl (hb hby at_181) kz))) ?_
        show Goes p e below (T121.setTop (mkF m 182 #[.val (.int p1), .val (.int p2), .val (.int p3), .val (.int (4 : Int32)), .val (.int n), .val (.int (0 : Int32)), .val (.int (0 : Int32)), .val (.int (0 : Int32)), .val (.int (1 : Int32)), .val (.ref (w 7)), .unset] [(.int (0 : Int32))])) _
        refine Goes.by (fun _ kz => XS.istore X121.here hx rfl (hb hby at_182) rfl (l' := #[.val (.int p1), .val (.int p2), .val (.int p3), .val (.int (4 : Int32)), .val (.int n), .val (.int (0 : Int32)), .val (.int (0 : Int32)), .val (.int (0 : Int32)), .val (.int (1 : Int32)), .val (.ref (w 7)), .val (.int (0 : Int32))]) rfl (XS.goto X121.here hx rfl (pc0 := 184) (pc' := 275) rfl (hb hby at_184) (by decide) (by decide) (XS.aload X121.here hx rfl (hb hby at_275) rfl rfl kz))) ?_
        show Goes p e below (T121.setTop (mkF m 277 #[.val (.int p1), .val (.int p2), .val (.int p3), .val (.int (4 : Int32)), .val (.int n), .val (.int (0 : Int32)), .val (.int (0 : Int32)), .val (.int (0 : Int32)), .val (.int (1 : Int32)), .val (.ref (w 7)), .val (.int (0 : Int32))] [(.ref (w 7))])) _
        refine Goes.by (fun _ kz => XS.iload X121.here hx rfl (hb hby at_277) rfl (XS.iload X121.here hx rfl (hb hby at_279) rfl kz)) ?_
        obtain ⟨cq123, kq123, q123a, q123b, q123c⟩ := isOf hZ e121 P.2.2.2.2.2.2.2.2.2.2.2.2.2.2.2.1
        obtain ⟨_, _, ⟨T123, L123, k123, n123⟩, -, X123, ⟨Lc123, hQ123, l123, y123, z123⟩, st123⟩ := X121.virtualBack hx (y := (⟨"com/example/entail/entail/model/Scope", "reaches", "(IZ)Z"⟩ : MethodName)) (z := (⟨"com/example/entail/entail/model/Scope", "reaches", "(IZ)Z"⟩ : MethodName)) hown (mvT hZ (hw _ (List.mem_of_getElem? (i := 4) rfl))) (mvT hZ (hw _ (List.mem_of_getElem? (i := 5) rfl))) (notFace_of_selects (args := #[]) (mvT hZ (hw _ (List.mem_of_getElem? (i := 7) rfl)))) (mvT hZ (hw _ (List.mem_of_getElem? (i := 7) rfl))) (mvT hZ (hw _ (List.mem_of_getElem? (i := 6) rfl))) (by decide) (backOf (W := 0) (r1_40 l Z a0 hw [] h0 n0 Z0 n w hn0 hn1 hn3 P) hZ (hw _ (List.mem_of_getElem? (i := 8) rfl)) (hw _ (List.mem_of_getElem? (i := 2) rfl)) (by decide) (by decide)) q123a q123c (g := (mkF m 281 #[.val (.int p1), .val (.int p2), .val (.int p3), .val (.int (4 : Int32)), .val (.int n), .val (.int (0 : Int32)), .val (.int (0 : Int32)), .val (.int (0 : Int32)), .val (.int (1 : Int32)), .val (.ref (w 7)), .val (.int (0 : Int32))] [(.int (0 : Int32)), (.int n), (.ref (w 7))])) rfl (by rw [hml]; rfl) (Steps.refl _) (argsL := [(.int n), (.int (0 : Int32))]) (rest := []) (lenOf pd0 rfl) rfl (by show 2 * 0 + _ ≤ _; exact Nat.le_of_eq rfl) (hb hby at_281) (fun _ _ => ⟨rfl, e121, (by decide : 0 + 0 ≤ _), (by decide : 0 + 0 ≤ _)⟩)
        dsimp only [Pt.U, Pt.locs, Pt.cells, Pt.slots] at X123 l123 y123 z123 st123 hQ123
        subst l123 y123 z123
        obtain ⟨rfl, Nq123, e123⟩ := hQ123
        have N123 := Fr.app N0 Nq123
        refine Goes.tr st123 ?_
        refine Goes.by (fun _ kz => XS.iload X123.here hx rfl (hb hby at_284) rfl (XS.icmpNo X123.here hx rfl (hb hby at_286) rfl (teq (by decide : (0 : Int32) = (0 : Int32))).2 (XS.iconst X123.here hx rfl (hb hby at_289) kz))) ?_
        show Goes p e below (T123.setTop (mkF m 290 #[.val (.int p1), .val (.int p2), .val (.int p3), .val (.int (4 : Int32)), .val (.int n), .val (.int (0 : Int32)), .val (.int (0 : Int32)), .val (.int (0 : Int32)), .val (.int (1 : Int32)), .val (.ref (w 7)), .val (.int (0 : Int32))] [(.int (1 : Int32))])) _
        refine Goes.by (fun _ kz => XS.goto X123.here hx rfl (pc0 := 290) (pc' := 294) rfl (hb hby at_290) (by decide) (by decide) kz) ?_
        show Goes p e below (T123.setTop (mkF m 294 #[.val (.int p1), .val (.int p2), .val (.int p3), .val (.int (4 : Int32)), .val (.int n), .val (.int (0 : Int32)), .val (.int (0 : Int32)), .val (.int (0 : Int32)), .val (.int (1 : Int32)), .val (.ref (w 7)), .val (.int (0 : Int32))] [(.int (1 : Int32))])) _
        obtain ⟨fs, hr, hrun, hended, hW, hsame⟩ := X123.leave (v := some (.int (1 : Int32))) (fun h => by rw [Bd.returns] at h; cases h)
        exact ⟨_, _, retN X123 hx (t := .boolean) Bd.returns (by simp) (hb hby at_294) hr, hrun, hended, _, _, rfl, ⟨rfl, N123⟩, ⟨_, rfl⟩, hW, hsame.mono (by decide) (by decide)⟩
      · show Goes p e below (s₁.setTop (mkF m 65 #[.val (.int p1), .val (.int p2), .val (.int p3), .val (.int (5 : Int32)), .val (.int n), .val (.int (0 : Int32)), .val (.int (0 : Int32)), .val (.int (0 : Int32)), .val (.int (1 : Int32)), .unset, .unset] [])) _
        refine Goes.by (fun _ kz => XS.iloadN X0.here hx rfl (hb hby at_65) rfl (XS.ifYes X0.here hx rfl (pc0 := 66) (pc' := 80) rfl (hb hby at_66) rfl ((if0 _ _).trans (feq (by decide : ¬ ((5 : Int32) = (0 : Int32)))).2) (by decide) (by decide) (XS.iloadN X0.here hx rfl (hb hby at_80) rfl kz))) ?_
        show Goes p e below (s₁.setTop (mkF m 81 #[.val (.int p1), .val (.int p2), .val (.int p3), .val (.int (5 : Int32)), .val (.int n), .val (.int (0 : Int32)), .val (.int (0 : Int32)), .val (.int (0 : Int32)), .val (.int (1 : Int32)), .unset, .unset] [(.int (5 : Int32))])) _
        refine Goes.by (fun _ kz => XS.iconst X0.here hx rfl (hb hby at_81) (XS.icmpYes X0.here hx rfl (pc0 := 82) (pc' := 110) rfl (hb hby at_82) rfl (feq (by decide : ¬ ((5 : Int32) = (1 : Int32)))).2 (by decide) (by decide) (XS.iloadN X0.here hx rfl (hb hby at_110) rfl kz))) ?_
        show Goes p e below (s₁.setTop (mkF m 111 #[.val (.int p1), .val (.int p2), .val (.int p3), .val (.int (5 : Int32)), .val (.int n), .val (.int (0 : Int32)), .val (.int (0 : Int32)), .val (.int (0 : Int32)), .val (.int (1 : Int32)), .unset, .unset] [(.int (5 : Int32))])) _
        refine Goes.by (fun _ kz => XS.iconst X0.here hx rfl (hb hby at_111) (XS.icmpYes X0.here hx rfl (pc0 := 112) (pc' := 140) rfl (hb hby at_112) rfl (feq (by decide : ¬ ((5 : Int32) = (2 : Int32)))).2 (by decide) (by decide) (XS.iloadN X0.here hx rfl (hb hby at_140) rfl kz))) ?_
        show Goes p e below (s₁.setTop (mkF m 141 #[.val (.int p1), .val (.int p2), .val (.int p3), .val (.int (5 : Int32)), .val (.int n), .val (.int (0 : Int32)), .val (.int (0 : Int32)), .val (.int (0 : Int32)), .val (.int (1 : Int32)), .unset, .unset] [(.int (5 : Int32))])) _
        refine Goes.by (fun _ kz => XS.iconst X0.here hx rfl (hb hby at_141) (XS.icmpYes X0.here hx rfl (pc0 := 142) (pc' := 157) rfl (hb hby at_142) rfl (feq (by decide : ¬ ((5 : Int32) = (3 : Int32)))).2 (by decide) (by decide) (XS.iloadN X0.here hx rfl (hb hby at_157) rfl kz))) ?_
        show Goes p e below (s₁.setTop (mkF m 158 #[.val (.int p1), .val (.int p2), .val (.int p3), .val (.int (5 : Int32)), .val (.int n), .val (.int (0 : Int32)), .val (.int (0 : Int32)), .val (.int (0 : Int32)), .val (.int (1 : Int32)), .unset, .unset] [(.int (5 : Int32))])) _
        refine Goes.by (fun _ kz => XS.iconst X0.here hx rfl (hb hby at_158) (XS.icmpYes X0.here hx rfl (pc0 := 159) (pc' := 187) rfl (hb hby at_159) rfl (feq (by decide : ¬ ((5 : Int32) = (4 : Int32)))).2 (by decide) (by decide) (XS.iloadN X0.here hx rfl (hb hby at_187) rfl kz))) ?_
        show Goes p e below (s₁.setTop (mkF m 188 #[.val (.int p1), .val (.int p2), .val (.int p3), .val (.int (5 : Int32)), .val (.int n), .val (.int (0 : Int32)), .val (.int (0 : Int32)), .val (.int (0 : Int32)), .val (.int (1 : Int32)), .unset, .unset] [(.int (5 : Int32))])) _
        refine Goes.by (fun _ kz => XS.iconst X0.here hx rfl (hb hby at_188) (XS.icmpNo X0.here hx rfl (hb hby at_189) rfl (teq (by decide : (5 : Int32) = (5 : Int32))).2 kz)) ?_
        obtain ⟨T124, X124, e124, st124⟩ := getS2 X0 hx hZ hown (host := "") (Or.inl (hw _ (List.mem_of_getElem? (i := 31) rfl))) Via.refl e0 P.2.2.2.2.2.2.2.2.2.2.2.2.2.2.2.2.1 (g := (mkF m 192 #[.val (.int p1), .val (.int p2), .val (.int p3), .val (.int (5 : Int32)), .val (.int n), .val (.int (0 : Int32)), .val (.int (0 : Int32)), .val (.int (0 : Int32)), .val (.int (1 : Int32)), .unset, .unset] [])) rfl (hb hby at_192)
        refine Goes.by st124 ?_
        refine Goes.by (fun _ kz => XS.astore X124.here hx rfl (hb hby at_195) rfl rfl (l' := #[.val (.int p1), .val (.int p2), .val (.int p3), .val (.int (5 : Int32)), .val (.int n), .val (.int (0 : Int32)), .val (.int (0 : Int32)), .val (.int (0 : Int32)), .val (.int (1 : Int32)), .val (.ref (w 8)), .unset]) rfl (XS.iload X124.here hx rfl (hb hby at_197) rfl (XS.ifNo X124.here hx rfl (hb hby at_199) rfl ((if0 _ _).trans (feq (by decide : ¬ ((1 : Int32) = (0 : Int32)))).1) kz))) ?_
        show Goes p e below (T124.setTop (mkF m 202 #[.val (.int p1), .val (.int p2), .val (.int p3), .val (.int (5 : Int32)), .val (.int n), .val (.int (0 : Int32)), .val (.int (0 : Int32)), .val (.int (0 : Int32)), .val (.int (1 : Int32)), .val (.ref (w 8)), .unset] [])) _
        refine Goes.by (fun _ kz => XS.iload X124.here hx rfl (hb hby at_202) rfl (XS.ifNo X124.here hx rfl (hb hby at_204) rfl ((if0 _ _).trans (teq (by decide : (0 : Int32) = (0 : Int32))).2) (XS.iconst X124.here hx rfl (hb hby at_207) kz))) ?_
        show Goes p e below (T124.setTop (mkF m 208 #[.val (.int p1), .val (.int p2), .val (.int p3), .val (.int (5 : Int32)), .val (.int n), .val (.int (0 : Int32)), .val (.int (0 : Int32)), .val (.int (0 : Int32)), .val (.int (1 : Int32)), .val (.ref (w 8)), .unset] [(.int (1 : Int32))])) _
        refine Goes.by (fun _ kz => XS.goto X124.here hx rfl (pc0 := 208) (pc' := 212) rfl (hb hby at_208) (by decide) (by decide) (XS.istore X124.here hx rfl (hb hby at_212) rfl (l' := #[.val (.int p1), .val (.int p2), .val (.int p3), .val (.int (5 : Int32)), .val (.int n), .val (.int (0 : Int32)), .val (.int (0 : Int32)), .val (.int (0 : Int32)), .val (.int (1 : Int32)), .val (.ref (w 8)), .val (.int (1 : Int32))]) rfl (XS.goto X124.here hx rfl (pc0 := 214) (pc' := 275) rfl (hb hby at_214) (by decide) (by decide) kz))) ?_
        show Goes p e below (T124.setTop (mkF m 275 #[.val (.int p1), .val (.int p2), .val (.int p3), .val (.int (5 : Int32)), .val (.int n), .val (.int (0 : Int32)), .val (.int (0 : Int32)), .val (.int (0 : Int32)), .val (.int (1 : Int32)), .val (.ref (w 8)), .val (.int (1 : Int32))] [])) _
        refine Goes.by (fun _ kz => XS.aload X124.here hx rfl (hb hby at_275) rfl rfl (XS.iload X124.here hx rfl (hb hby at_277) rfl (XS.iload X124.here hx rfl (hb hby at_279) rfl kz))) ?_
        obtain ⟨cq126, kq126, q126a, q126b, q126c⟩ := isOf hZ e124 P.2.2.2.2.2.2.2.2.2.2.2.2.2.2.2.2.2.1
        obtain ⟨_, _, ⟨T126, L126, k126, n126⟩, -, X126, ⟨Lc126, hQ126, l126, y126, z126⟩, st126⟩ := X124.virtualBack hx (y := (⟨"com/example/entail/entail/model/Scope", "reaches", "(IZ)Z"⟩ : MethodName)) (z := (⟨"com/example/entail/entail/model/Scope", "reaches", "(IZ)Z"⟩ : MethodName)) hown (mvT hZ (hw _ (List.mem_of_getElem? (i := 4) rfl))) (mvT hZ (hw _ (List.mem_of_getElem? (i := 5) rfl))) (notFace_of_selects (args := #[]) (mvT hZ (hw _ (List.mem_of_getElem? (i := 7) rfl)))) (mvT hZ (hw _ (List.mem_of_getElem? (i := 7) rfl))) (mvT hZ (hw _ (List.mem_of_getElem? (i := 6) rfl))) (by decide) (backOf (W := 0) (r1_41 l Z a0 hw [] h0 n0 Z0 n w hn0 hn1 hn3 P) hZ (hw _ (List.mem_of_getElem? (i := 8) rfl)) (hw _ (List.mem_of_getElem? (i := 2) rfl)) (by decide) (by decide)) q126a q126c (g := (mkF m 281 #[.val (.int p1), .val (.int p2), .val (.int p3), .val (.int (5 : Int32)), .val (.int n), .val (.int (0 : Int32)), .val (.int (0 : Int32)), .val (.int (0 : Int32)), .val (.int (1 : Int32)), .val (.ref (w 8)), .val (.int (1 : Int32))] [(.int (0 : Int32)), (.int n), (.ref (w 8))])) rfl (by rw [hml]; rfl) (Steps.refl _) (argsL := [(.int n), (.int (0 : Int32))]) (rest := []) (lenOf pd0 rfl) rfl (by show 2 * 0 + _ ≤ _; exact Nat.le_of_eq rfl) (hb hby at_281) (fun _ _ => ⟨rfl, e124, (by decide : 0 + 0 ≤ _), (by decide : 0 + 0 ≤ _)⟩)
        dsimp only [Pt.U, Pt.locs, Pt.cells, Pt.slots] at X126 l126 y126 z126 st126 hQ126
        subst l126 y126 z126
        obtain ⟨rfl, Nq126, e126⟩ := hQ126
        have N126 := Fr.app N0 Nq126
        refine Goes.tr st126 ?_
        refine Goes.by (fun _ kz => XS.iload X126.here hx rfl (hb hby at_284) rfl (XS.icmpNo X126.here hx rfl (hb hby at_286) rfl (teq (by decide : (1 : Int32) = (1 : Int32))).2 (XS.iconst X126.here hx rfl (hb hby at_289) kz))) ?_
        show Goes p e below (T126.setTop (mkF m 290 #[.val (.int p1), .val (.int p2), .val (.int p3), .val (.int (5 : Int32)), .val (.int n), .val (.int (0 : Int32)), .val (.int (0 : Int32)), .val (.int (0 : Int32)), .val (.int (1 : Int32)), .val (.ref (w 8)), .val (.int (1 : Int32))] [(.int (1 : Int32))])) _
        refine Goes.by (fun _ kz => XS.goto X126.here hx rfl (pc0 := 290) (pc' := 294) rfl (hb hby at_290) (by decide) (by decide) kz) ?_
        show Goes p e below (T126.setTop (mkF m 294 #[.val (.int p1), .val (.int p2), .val (.int p3), .val (.int (5 : Int32)), .val (.int n), .val (.int (0 : Int32)), .val (.int (0 : Int32)), .val (.int (0 : Int32)), .val (.int (1 : Int32)), .val (.ref (w 8)), .val (.int (1 : Int32))] [(.int (1 : Int32))])) _
        obtain ⟨fs, hr, hrun, hended, hW, hsame⟩ := X126.leave (v := some (.int (1 : Int32))) (fun h => by rw [Bd.returns] at h; cases h)
        exact ⟨_, _, retN X126 hx (t := .boolean) Bd.returns (by simp) (hb hby at_294) hr, hrun, hended, _, _, rfl, ⟨rfl, N126⟩, ⟨_, rfl⟩, hW, hsame.mono (by decide) (by decide)⟩
      · show Goes p e below (s₁.setTop (mkF m 65 #[.val (.int p1), .val (.int p2), .val (.int p3), .val (.int (6 : Int32)), .val (.int n), .val (.int (0 : Int32)), .val (.int (0 : Int32)), .val (.int (0 : Int32)), .val (.int (1 : Int32)), .unset, .unset] [])) _
        refine Goes.by (fun _ kz => XS.iloadN X0.here hx rfl (hb hby at_65) rfl (XS.ifYes X0.here hx rfl (pc0 := 66) (pc' := 80) rfl (hb hby at_66) rfl ((if0 _ _).trans (feq (by decide : ¬ ((6 : Int32) = (0 : Int32)))).2) (by decide) (by decide) (XS.iloadN X0.here hx rfl (hb hby at_80) rfl kz))) ?_
        show Goes p e below (s₁.setTop (mkF m 81 #[.val (.int p1), .val (.int p2), .val (.int p3), .val (.int (6 : Int32)), .val (.int n), .val (.int (0 : Int32)), .val (.int (0 : Int32)), .val (.int (0 : Int32)), .val (.int (1 : Int32)), .unset, .unset] [(.int (6 : Int32))])) _
        refine Goes.by (fun _ kz => XS.iconst X0.here hx rfl (hb hby at_81) (XS.icmpYes X0.here hx rfl (pc0 := 82) (pc' := 110) rfl (hb hby at_82) rfl (feq (by decide : ¬ ((6 : Int32) = (1 : Int32)))).2 (by decide) (by decide) (XS.iloadN X0.here hx rfl (hb hby at_110) rfl kz))) ?_
        show Goes p e below (s₁.setTop (mkF m 111 #[.val (.int p1), .val (.int p2), .val (.int p3), .val (.int (6 : Int32)), .val (.int n), .val (.int (0 : Int32)), .val (.int (0 : Int32)), .val (.int (0 : Int32)), .val (.int (1 : Int32)), .unset, .unset] [(.int (6 : Int32))])) _
        refine Goes.by (fun _ kz => XS.iconst X0.here hx rfl (hb hby at_111) (XS.icmpYes X0.here hx rfl (pc0 := 112) (pc' := 140) rfl (hb hby at_112) rfl (feq (by decide : ¬ ((6 : Int32) = (2 : Int32)))).2 (by decide) (by decide) (XS.iloadN X0.here hx rfl (hb hby at_140) rfl kz))) ?_
        show Goes p e below (s₁.setTop (mkF m 141 #[.val (.int p1), .val (.int p2), .val (.int p3), .val (.int (6 : Int32)), .val (.int n), .val (.int (0 : Int32)), .val (.int (0 : Int32)), .val (.int (0 : Int32)), .val (.int (1 : Int32)), .unset, .unset] [(.int (6 : Int32))])) _
        refine Goes.by (fun _ kz => XS.iconst X0.here hx rfl (hb hby at_141) (XS.icmpYes X0.here hx rfl (pc0 := 142) (pc' := 157) rfl (hb hby at_142) rfl (feq (by decide : ¬ ((6 : Int32) = (3 : Int32)))).2 (by decide) (by decide) (XS.iloadN X0.here hx rfl (hb hby at_157) rfl kz))) ?_
        show Goes p e below (s₁.setTop (mkF m 158 #[.val (.int p1), .val (.int p2), .val (.int p3), .val (.int (6 : Int32)), .val (.int n), .val (.int (0 : Int32)), .val (.int (0 : Int32)), .val (.int (0 : Int32)), .val (.int (1 : Int32)), .unset, .unset] [(.int (6 : Int32))])) _
        refine Goes.by (fun _ kz => XS.iconst X0.here hx rfl (hb hby at_158) (XS.icmpYes X0.here hx rfl (pc0 := 159) (pc' := 187) rfl (hb hby at_159) rfl (feq (by decide : ¬ ((6 : Int32) = (4 : Int32)))).2 (by decide) (by decide) (XS.iloadN X0.here hx rfl (hb hby at_187) rfl kz))) ?_
        show Goes p e below (s₁.setTop (mkF m 188 #[.val (.int p1), .val (.int p2), .val (.int p3), .val (.int (6 : Int32)), .val (.int n), .val (.int (0 : Int32)), .val (.int (0 : Int32)), .val (.int (0 : Int32)), .val (.int (1 : Int32)), .unset, .unset] [(.int (6 : Int32))])) _
        refine Goes.by (fun _ kz => XS.iconst X0.here hx rfl (hb hby at_188) (XS.icmpYes X0.here hx rfl (pc0 := 189) (pc' := 217) rfl (hb hby at_189) rfl (feq (by decide : ¬ ((6 : Int32) = (5 : Int32)))).2 (by decide) (by decide) (XS.iloadN X0.here hx rfl (hb hby at_217) rfl kz))) ?_
        show Goes p e below (s₁.setTop (mkF m 218 #[.val (.int p1), .val (.int p2), .val (.int p3), .val (.int (6 : Int32)), .val (.int n), .val (.int (0 : Int32)), .val (.int (0 : Int32)), .val (.int (0 : Int32)), .val (.int (1 : Int32)), .unset, .unset] [(.int (6 : Int32))])) _
        refine Goes.by (fun _ kz => XS.bipush X0.here hx rfl (hb hby at_218) (XS.icmpNo X0.here hx rfl (hb hby at_220) rfl (teq (by decide : (6 : Int32) = (6 : Int32))).2 kz)) ?_
        obtain ⟨T127, X127, e127, st127⟩ := getS2 X0 hx hZ hown (host := "") (Or.inl (hw _ (List.mem_of_getElem? (i := 21) rfl))) Via.refl e0 P.2.2.2.2.2.2.2.2.1 (g := (mkF m 223 #[.val (.int p1), .val (.int p2), .val (.int p3), .val (.int (6 : Int32)), .val (.int n), .val (.int (0 : Int32)), .val (.int (0 : Int32)), .val (.int (0 : Int32)), .val (.int (1 : Int32)), .unset, .unset] [])) rfl (hb hby at_223)
        refine Goes.by st127 ?_
        refine Goes.by (fun _ kz => XS.astore X127.here hx rfl (hb hby at_226) rfl rfl (l' := #[.val (.int p1), .val (.int p2), .val (.int p3), .val (.int (6 : Int32)), .val (.int n), .val (.int (0 : Int32)), .val (.int (0 : Int32)), .val (.int (0 : Int32)), .val (.int (1 : Int32)), .val (.ref (w 4)), .unset]) rfl (XS.iload X127.here hx rfl (hb hby at_228) rfl (XS.istore X127.here hx rfl (hb hby at_230) rfl (l' := #[.val (.int p1), .val (.int p2), .val (.int p3), .val (.int (6 : Int32)), .val (.int n), .val (.int (0 : Int32)), .val (.int (0 : Int32)), .val (.int (0 : Int32)), .val (.int (1 : Int32)), .val (.ref (w 4)), .val (.int (0 : Int32))]) rfl kz))) ?_
        show Goes p e below (T127.setTop (mkF m 232 #[.val (.int p1), .val (.int p2), .val (.int p3), .val (.int (6 : Int32)), .val (.int n), .val (.int (0 : Int32)), .val (.int (0 : Int32)), .val (.int (0 : Int32)), .val (.int (1 : Int32)), .val (.ref (w 4)), .val (.int (0 : Int32))] [])) _
        refine Goes.by (fun _ kz => XS.goto X127.here hx rfl (pc0 := 232) (pc' := 275) rfl (hb hby at_232) (by decide) (by decide) (XS.aload X127.here hx rfl (hb hby at_275) rfl rfl (XS.iload X127.here hx rfl (hb hby at_277) rfl kz))) ?_
        show Goes p e below (T127.setTop (mkF m 279 #[.val (.int p1), .val (.int p2), .val (.int p3), .val (.int (6 : Int32)), .val (.int n), .val (.int (0 : Int32)), .val (.int (0 : Int32)), .val (.int (0 : Int32)), .val (.int (1 : Int32)), .val (.ref (w 4)), .val (.int (0 : Int32))] [(.int n), (.ref (w 4))])) _
        refine Goes.by (fun _ kz => XS.iload X127.here hx rfl (hb hby at_279) rfl kz) ?_
        obtain ⟨cq129, kq129, q129a, q129b, q129c⟩ := isOf hZ e127 P.2.2.2.2.2.2.2.2.2.1
        obtain ⟨_, _, ⟨T129, L129, k129, n129⟩, -, X129, ⟨Lc129, hQ129, l129, y129, z129⟩, st129⟩ := X127.virtualBack hx (y := (⟨"com/example/entail/entail/model/Scope", "reaches", "(IZ)Z"⟩ : MethodName)) (z := (⟨"com/example/entail/entail/model/Scope", "reaches", "(IZ)Z"⟩ : MethodName)) hown (mvT hZ (hw _ (List.mem_of_getElem? (i := 4) rfl))) (mvT hZ (hw _ (List.mem_of_getElem? (i := 5) rfl))) (notFace_of_selects (args := #[]) (mvT hZ (hw _ (List.mem_of_getElem? (i := 7) rfl)))) (mvT hZ (hw _ (List.mem_of_getElem? (i := 7) rfl))) (mvT hZ (hw _ (List.mem_of_getElem? (i := 6) rfl))) (by decide) (backOf (W := 0) (r1_42 l Z a0 hw [] h0 n0 Z0 n w hn0 hn1 hn3 P) hZ (hw _ (List.mem_of_getElem? (i := 8) rfl)) (hw _ (List.mem_of_getElem? (i := 2) rfl)) (by decide) (by decide)) q129a q129c (g := (mkF m 281 #[.val (.int p1), .val (.int p2), .val (.int p3), .val (.int (6 : Int32)), .val (.int n), .val (.int (0 : Int32)), .val (.int (0 : Int32)), .val (.int (0 : Int32)), .val (.int (1 : Int32)), .val (.ref (w 4)), .val (.int (0 : Int32))] [(.int (0 : Int32)), (.int n), (.ref (w 4))])) rfl (by rw [hml]; rfl) (Steps.refl _) (argsL := [(.int n), (.int (0 : Int32))]) (rest := []) (lenOf pd0 rfl) rfl (by show 2 * 0 + _ ≤ _; exact Nat.le_of_eq rfl) (hb hby at_281) (fun _ _ => ⟨rfl, e127, (by decide : 0 + 0 ≤ _), (by decide : 0 + 0 ≤ _)⟩)
        dsimp only [Pt.U, Pt.locs, Pt.cells, Pt.slots] at X129 l129 y129 z129 st129 hQ129
        subst l129 y129 z129
        obtain ⟨rfl, Nq129, e129⟩ := hQ129
        have N129 := Fr.app N0 Nq129
        refine Goes.tr st129 ?_
        refine Goes.by (fun _ kz => XS.iload X129.here hx rfl (hb hby at_284) rfl (XS.icmpNo X129.here hx rfl (hb hby at_286) rfl (teq (by decide : (0 : Int32) = (0 : Int32))).2 (XS.iconst X129.here hx rfl (hb hby at_289) kz))) ?_
        show Goes p e below (T129.setTop (mkF m 290 #[.val (.int p1), .val (.int p2), .val (.int p3), .val (.int (6 : Int32)), .val (.int n), .val (.int (0 : Int32)), .val (.int (0 : Int32)), .val (.int (0 : Int32)), .val (.int (1 : Int32)), .val (.ref (w 4)), .val (.int (0 : Int32))] [(.int (1 : Int32))])) _
        refine Goes.by (fun _ kz => XS.goto X129.here hx rfl (pc0 := 290) (pc' := 294) rfl (hb hby at_290) (by decide) (by decide) kz) ?_
        show Goes p e below (T129.setTop (mkF m 294 #[.val (.int p1), .val (.int p2), .val (.int p3), .val (.int (6 : Int32)), .val (.int n), .val (.int (0 : Int32)), .val (.int (0 : Int32)), .val (.int (0 : Int32)), .val (.int (1 : Int32)), .val (.ref (w 4)), .val (.int (0 : Int32))] [(.int (1 : Int32))])) _
        obtain ⟨fs, hr, hrun, hended, hW, hsame⟩ := X129.leave (v := some (.int (1 : Int32))) (fun h => by rw [Bd.returns] at h; cases h)
        exact ⟨_, _, retN X129 hx (t := .boolean) Bd.returns (by simp) (hb hby at_294) hr, hrun, hended, _, _, rfl, ⟨rfl, N129⟩, ⟨_, rfl⟩, hW, hsame.mono (by decide) (by decide)⟩
      · show Goes p e below (s₁.setTop (mkF m 65 #[.val (.int p1), .val (.int p2), .val (.int p3), .val (.int (7 : Int32)), .val (.int n), .val (.int (0 : Int32)), .val (.int (0 : Int32)), .val (.int (0 : Int32)), .val (.int (1 : Int32)), .unset, .unset] [])) _
        refine Goes.by (fun _ kz => XS.iloadN X0.here hx rfl (hb hby at_65) rfl (XS.ifYes X0.here hx rfl (pc0 := 66) (pc' := 80) rfl (hb hby at_66) rfl ((if0 _ _).trans (feq (by decide : ¬ ((7 : Int32) = (0 : Int32)))).2) (by decide) (by decide) (XS.iloadN X0.here hx rfl (hb hby at_80) rfl kz))) ?_
        show Goes p e below (s₁.setTop (mkF m 81 #[.val (.int p1), .val (.int p2), .val (.int p3), .val (.int (7 : Int32)), .val (.int n), .val (.int (0 : Int32)), .val (.int (0 : Int32)), .val (.int (0 : Int32)), .val (.int (1 : Int32)), .unset, .unset] [(.int (7 : Int32))])) _
        refine Goes.by (fun _ kz => XS.iconst X0.here hx rfl (hb hby at_81) (XS.icmpYes X0.here hx rfl (pc0 := 82) (pc' := 110) rfl (hb hby at_82) rfl (feq (by decide : ¬ ((7 : Int32) = (1 : Int32)))).2 (by decide) (by decide) (XS.iloadN X0.here hx rfl (hb hby at_110) rfl kz))) ?_
        show Goes p e below (s₁.setTop (mkF m 111 #[.val (.int p1), .val (.int p2), .val (.int p3), .val (.int (7 : Int32)), .val (.int n), .val (.int (0 : Int32)), .val (.int (0 : Int32)), .val (.int (0 : Int32)), .val (.int (1 : Int32)), .unset, .unset] [(.int (7 : Int32))])) _
        refine Goes.by (fun _ kz => XS.iconst X0.here hx rfl (hb hby at_111) (XS.icmpYes X0.here hx rfl (pc0 := 112) (pc' := 140) rfl (hb hby at_112) rfl (feq (by decide : ¬ ((7 : Int32) = (2 : Int32)))).2 (by decide) (by decide) (XS.iloadN X0.here hx rfl (hb hby at_140) rfl kz))) ?_
        show Goes p e below (s₁.setTop (mkF m 141 #[.val (.int p1), .val (.int p2), .val (.int p3), .val (.int (7 : Int32)), .val (.int n), .val (.int (0 : Int32)), .val (.int (0 : Int32)), .val (.int (0 : Int32)), .val (.int (1 : Int32)), .unset, .unset] [(.int (7 : Int32))])) _
        refine Goes.by (fun _ kz => XS.iconst X0.here hx rfl (hb hby at_141) (XS.icmpYes X0.here hx rfl (pc0 := 142) (pc' := 157) rfl (hb hby at_142) rfl (feq (by decide : ¬ ((7 : Int32) = (3 : Int32)))).2 (by decide) (by decide) (XS.iloadN X0.here hx rfl (hb hby at_157) rfl kz))) ?_
        show Goes p e below (s₁.setTop (mkF m 158 #[.val (.int p1), .val (.int p2), .val (.int p3), .val (.int (7 : Int32)), .val (.int n), .val (.int (0 : Int32)), .val (.int (0 : Int32)), .val (.int (0 : Int32)), .val (.int (1 : Int32)), .unset, .unset] [(.int (7 : Int32))])) _
        refine Goes.by (fun _ kz => XS.iconst X0.here hx rfl (hb hby at_158) (XS.icmpYes X0.here hx rfl (pc0 := 159) (pc' := 187) rfl (hb hby at_159) rfl (feq (by decide : ¬ ((7 : Int32) = (4 : Int32)))).2 (by decide) (by decide) (XS.iloadN X0.here hx rfl (hb hby at_187) rfl kz))) ?_
        show Goes p e below (s₁.setTop (mkF m 188 #[.val (.int p1), .val (.int p2), .val (.int p3), .val (.int (7 : Int32)), .val (.int n), .val (.int (0 : Int32)), .val (.int (0 : Int32)), .val (.int (0 : Int32)), .val (.int (1 : Int32)), .unset, .unset] [(.int (7 : Int32))])) _
        refine Goes.by (fun _ kz => XS.iconst X0.here hx rfl (hb hby at_188) (XS.icmpYes X0.here hx rfl (pc0 := 189) (pc' := 217) rfl (hb hby at_189) rfl (feq (by decide : ¬ ((7 : Int32) = (5 : Int32)))).2 (by decide) (by decide) (XS.iloadN X0.here hx rfl (hb hby at_217) rfl kz))) ?_
        show Goes p e below (s₁.setTop (mkF m 218 #[.val (.int p1), .val (.int p2), .val (.int p3), .val (.int (7 : Int32)), .val (.int n), .val (.int (0 : Int32)), .val (.int (0 : Int32)), .val (.int (0 : Int32)), .val (.int (1 : Int32)), .unset, .unset] [(.int (7 : Int32))])) _
        refine Goes.by (fun _ kz => XS.bipush X0.here hx rfl (hb hby at_218) (XS.icmpYes X0.here hx rfl (pc0 := 220) (pc' := 235) rfl (hb hby at_220) rfl (feq (by decide : ¬ ((7 : Int32) = (6 : Int32)))).2 (by decide) (by decide) (XS.iloadN X0.here hx rfl (hb hby at_235) rfl kz))) ?_
        show Goes p e below (s₁.setTop (mkF m 236 #[.val (.int p1), .val (.int p2), .val (.int p3), .val (.int (7 : Int32)), .val (.int n), .val (.int (0 : Int32)), .val (.int (0 : Int32)), .val (.int (0 : Int32)), .val (.int (1 : Int32)), .unset, .unset] [(.int (7 : Int32))])) _
        refine Goes.by (fun _ kz => XS.bipush X0.here hx rfl (hb hby at_236) (XS.icmpNo X0.here hx rfl (hb hby at_238) rfl (teq (by decide : (7 : Int32) = (7 : Int32))).2 kz)) ?_
        obtain ⟨T130, X130, e130, st130⟩ := getS2 X0 hx hZ hown (host := "") (Or.inl (hw _ (List.mem_of_getElem? (i := 23) rfl))) Via.refl e0 P.2.2.2.2.2.2.2.2.2.2.1 (g := (mkF m 241 #[.val (.int p1), .val (.int p2), .val (.int p3), .val (.int (7 : Int32)), .val (.int n), .val (.int (0 : Int32)), .val (.int (0 : Int32)), .val (.int (0 : Int32)), .val (.int (1 : Int32)), .unset, .unset] [])) rfl (hb hby at_241)
        refine Goes.by st130 ?_
        refine Goes.by (fun _ kz => XS.astore X130.here hx rfl (hb hby at_244) rfl rfl (l' := #[.val (.int p1), .val (.int p2), .val (.int p3), .val (.int (7 : Int32)), .val (.int n), .val (.int (0 : Int32)), .val (.int (0 : Int32)), .val (.int (0 : Int32)), .val (.int (1 : Int32)), .val (.ref (w 5)), .unset]) rfl (XS.iload X130.here hx rfl (hb hby at_246) rfl (XS.ifYes X130.here hx rfl (pc0 := 248) (pc' := 260) rfl (hb hby at_248) rfl ((if0 _ _).trans (teq (by decide : (0 : Int32) = (0 : Int32))).1) (by decide) (by decide) kz))) ?_
        show Goes p e below (T130.setTop (mkF m 260 #[.val (.int p1), .val (.int p2), .val (.int p3), .val (.int (7 : Int32)), .val (.int n), .val (.int (0 : Int32)), .val (.int (0 : Int32)), .val (.int (0 : Int32)), .val (.int (1 : Int32)), .val (.ref (w 5)), .unset] [])) _
        refine Goes.by (fun _ kz => XS.iconst X130.here hx rfl (hb hby at_260) (XS.istore X130.here hx rfl (hb hby at_261) rfl (l' := #[.val (.int p1), .val (.int p2), .val (.int p3), .val (.int (7 : Int32)), .val (.int n), .val (.int (0 : Int32)), .val (.int (0 : Int32)), .val (.int (0 : Int32)), .val (.int (1 : Int32)), .val (.ref (w 5)), .val (.int (0 : Int32))]) rfl (XS.goto X130.here hx rfl (pc0 := 263) (pc' := 275) rfl (hb hby at_263) (by decide) (by decide) kz))) ?_
        show Goes p e below (T130.setTop (mkF m 275 #[.val (.int p1), .val (.int p2), .val (.int p3), .val (.int (7 : Int32)), .val (.int n), .val (.int (0 : Int32)), .val (.int (0 : Int32)), .val (.int (0 : Int32)), .val (.int (1 : Int32)), .val (.ref (w 5)), .val (.int (0 : Int32))] [])) _
        refine Goes.by (fun _ kz => XS.aload X130.here hx rfl (hb hby at_275) rfl rfl (XS.iload X130.here hx rfl (hb hby at_277) rfl (XS.iload X130.here hx rfl (hb hby at_279) rfl kz))) ?_
        obtain ⟨cq132, kq132, q132a, q132b, q132c⟩ := isOf hZ e130 P.2.2.2.2.2.2.2.2.2.2.2.1
        obtain ⟨_, _, ⟨T132, L132, k132, n132⟩, -, X132, ⟨Lc132, hQ132, l132, y132, z132⟩, st132⟩ := X130.virtualBack hx (y := (⟨"com/example/entail/entail/model/Scope", "reaches", "(IZ)Z"⟩ : MethodName)) (z := (⟨"com/example/entail/entail/model/Scope", "reaches", "(IZ)Z"⟩ : MethodName)) hown (mvT hZ (hw _ (List.mem_of_getElem? (i := 4) rfl))) (mvT hZ (hw _ (List.mem_of_getElem? (i := 5) rfl))) (notFace_of_selects (args := #[]) (mvT hZ (hw _ (List.mem_of_getElem? (i := 7) rfl)))) (mvT hZ (hw _ (List.mem_of_getElem? (i := 7) rfl))) (mvT hZ (hw _ (List.mem_of_getElem? (i := 6) rfl))) (by decide) (backOf (W := 0) (r1_43 l Z a0 hw [] h0 n0 Z0 n w hn0 hn1 hn3 P) hZ (hw _ (List.mem_of_getElem? (i := 8) rfl)) (hw _ (List.mem_of_getElem? (i := 2) rfl)) (by decide) (by decide)) q132a q132c (g := (mkF m 281 #[.val (.int p1), .val (.int p2), .val (.int p3), .val (.int (7 : Int32)), .val (.int n), .val (.int (0 : Int32)), .val (.int (0 : Int32)), .val (.int (0 : Int32)), .val (.int (1 : Int32)), .val (.ref (w 5)), .val (.int (0 : Int32))] [(.int (0 : Int32)), (.int n), (.ref (w 5))])) rfl (by rw [hml]; rfl) (Steps.refl _) (argsL := [(.int n), (.int (0 : Int32))]) (rest := []) (lenOf pd0 rfl) rfl (by show 2 * 0 + _ ≤ _; exact Nat.le_of_eq rfl) (hb hby at_281) (fun _ _ => ⟨rfl, e130, (by decide : 0 + 0 ≤ _), (by decide : 0 + 0 ≤ _)⟩)
        dsimp only [Pt.U, Pt.locs, Pt.cells, Pt.slots] at X132 l132 y132 z132 st132 hQ132
        subst l132 y132 z132
        obtain ⟨rfl, Nq132, e132⟩ := hQ132
        have N132 := Fr.app N0 Nq132
        refine Goes.tr st132 ?_
        refine Goes.by (fun _ kz => XS.iload X132.here hx rfl (hb hby at_284) rfl (XS.icmpNo X132.here hx rfl (hb hby at_286) rfl (teq (by decide : (0 : Int32) = (0 : Int32))).2 (XS.iconst X132.here hx rfl (hb hby at_289) kz))) ?_
        show Goes p e below (T132.setTop (mkF m 290 #[.val (.int p1), .val (.int p2), .val (.int p3), .val (.int (7 : Int32)), .val (.int n), .val (.int (0 : Int32)), .val (.int (0 : Int32)), .val (.int (0 : Int32)), .val (.int (1 : Int32)), .val (.ref (w 5)), .val (.int (0 : Int32))] [(.int (1 : Int32))])) _
        refine Goes.by (fun _ kz => XS.goto X132.here hx rfl (pc0 := 290) (pc' := 294) rfl (hb hby at_290) (by decide) (by decide) kz) ?_
        show Goes p e below (T132.setTop (mkF m 294 #[.val (.int p1), .val (.int p2), .val (.int p3), .val (.int (7 : Int32)), .val (.int n), .val (.int (0 : Int32)), .val (.int (0 : Int32)), .val (.int (0 : Int32)), .val (.int (1 : Int32)), .val (.ref (w 5)), .val (.int (0 : Int32))] [(.int (1 : Int32))])) _
        obtain ⟨fs, hr, hrun, hended, hW, hsame⟩ := X132.leave (v := some (.int (1 : Int32))) (fun h => by rw [Bd.returns] at h; cases h)
        exact ⟨_, _, retN X132 hx (t := .boolean) Bd.returns (by simp) (hb hby at_294) hr, hrun, hended, _, _, rfl, ⟨rfl, N132⟩, ⟨_, rfl⟩, hW, hsame.mono (by decide) (by decide)⟩
      · show Goes p e below (s₁.setTop (mkF m 65 #[.val (.int p1), .val (.int p2), .val (.int p3), .val (.int (8 : Int32)), .val (.int n), .val (.int (0 : Int32)), .val (.int (0 : Int32)), .val (.int (0 : Int32)), .val (.int (1 : Int32)), .unset, .unset] [])) _
        refine Goes.by (fun _ kz => XS.iloadN X0.here hx rfl (hb hby at_65) rfl (XS.ifYes X0.here hx rfl (pc0 := 66) (pc' := 80) rfl (hb hby at_66) rfl ((if0 _ _).trans (feq (by decide : ¬ ((8 : Int32) = (0 : Int32)))).2) (by decide) (by decide) (XS.iloadN X0.here hx rfl (hb hby at_80) rfl kz))) ?_
        show Goes p e below (s₁.setTop (mkF m 81 #[.val (.int p1), .val (.int p2), .val (.int p3), .val (.int (8 : Int32)), .val (.int n), .val (.int (0 : Int32)), .val (.int (0 : Int32)), .val (.int (0 : Int32)), .val (.int (1 : Int32)), .unset, .unset] [(.int (8 : Int32))])) _
        refine Goes.by (fun _ kz => XS.iconst X0.here hx rfl (hb hby at_81) (XS.icmpYes X0.here hx rfl (pc0 := 82) (pc' := 110) rfl (hb hby at_82) rfl (feq (by decide : ¬ ((8 : Int32) = (1 : Int32)))).2 (by decide) (by decide) (XS.iloadN X0.here hx rfl (hb hby at_110) rfl kz))) ?_
        show Goes p e below (s₁.setTop (mkF m 111 #[.val (.int p1), .val (.int p2), .val (.int p3), .val (.int (8 : Int32)), .val (.int n), .val (.int (0 : Int32)), .val (.int (0 : Int32)), .val (.int (0 : Int32)), .val (.int (1 : Int32)), .unset, .unset] [(.int (8 : Int32))])) _
        refine Goes.by (fun _ kz => XS.iconst X0.here hx rfl (hb hby at_111) (XS.icmpYes X0.here hx rfl (pc0 := 112) (pc' := 140) rfl (hb hby at_112) rfl (feq (by decide : ¬ ((8 : Int32) = (2 : Int32)))).2 (by decide) (by decide) (XS.iloadN X0.here hx rfl (hb hby at_140) rfl kz))) ?_
        show Goes p e below (s₁.setTop (mkF m 141 #[.val (.int p1), .val (.int p2), .val (.int p3), .val (.int (8 : Int32)), .val (.int n), .val (.int (0 : Int32)), .val (.int (0 : Int32)), .val (.int (0 : Int32)), .val (.int (1 : Int32)), .unset, .unset] [(.int (8 : Int32))])) _
        refine Goes.by (fun _ kz => XS.iconst X0.here hx rfl (hb hby at_141) (XS.icmpYes X0.here hx rfl (pc0 := 142) (pc' := 157) rfl (hb hby at_142) rfl (feq (by decide : ¬ ((8 : Int32) = (3 : Int32)))).2 (by decide) (by decide) (XS.iloadN X0.here hx rfl (hb hby at_157) rfl kz))) ?_
        show Goes p e below (s₁.setTop (mkF m 158 #[.val (.int p1), .val (.int p2), .val (.int p3), .val (.int (8 : Int32)), .val (.int n), .val (.int (0 : Int32)), .val (.int (0 : Int32)), .val (.int (0 : Int32)), .val (.int (1 : Int32)), .unset, .unset] [(.int (8 : Int32))])) _
        refine Goes.by (fun _ kz => XS.iconst X0.here hx rfl (hb hby at_158) (XS.icmpYes X0.here hx rfl (pc0 := 159) (pc' := 187) rfl (hb hby at_159) rfl (feq (by decide : ¬ ((8 : Int32) = (4 : Int32)))).2 (by decide) (by decide) (XS.iloadN X0.here hx rfl (hb hby at_187) rfl kz))) ?_
        show Goes p e below (s₁.setTop (mkF m 188 #[.val (.int p1), .val (.int p2), .val (.int p3), .val (.int (8 : Int32)), .val (.int n), .val (.int (0 : Int32)), .val (.int (0 : Int32)), .val (.int (0 : Int32)), .val (.int (1 : Int32)), .unset, .unset] [(.int (8 : Int32))])) _
        refine Goes.by (fun _ kz => XS.iconst X0.here hx rfl (hb hby at_188) (XS.icmpYes X0.here hx rfl (pc0 := 189) (pc' := 217) rfl (hb hby at_189) rfl (feq (by decide : ¬ ((8 : Int32) = (5 : Int32)))).2 (by decide) (by decide) (XS.iloadN X0.here hx rfl (hb hby at_217) rfl kz))) ?_
        show Goes p e below (s₁.setTop (mkF m 218 #[.val (.int p1), .val (.int p2), .val (.int p3), .val (.int (8 : Int32)), .val (.int n), .val (.int (0 : Int32)), .val (.int (0 : Int32)), .val (.int (0 : Int32)), .val (.int (1 : Int32)), .unset, .unset] [(.int (8 : Int32))])) _
        refine Goes.by (fun _ kz => XS.bipush X0.here hx rfl (hb hby at_218) (XS.icmpYes X0.here hx rfl (pc0 := 220) (pc' := 235) rfl (hb hby at_220) rfl (feq (by decide : ¬ ((8 : Int32) = (6 : Int32)))).2 (by decide) (by decide) (XS.iloadN X0.here hx rfl (hb hby at_235) rfl kz))) ?_
        show Goes p e below (s₁.setTop (mkF m 236 #[.val (.int p1), .val (.int p2), .val (.int p3), .val (.int (8 : Int32)), .val (.int n), .val (.int (0 : Int32)), .val (.int (0 : Int32)), .val (.int (0 : Int32)), .val (.int (1 : Int32)), .unset, .unset] [(.int (8 : Int32))])) _
        refine Goes.by (fun _ kz => XS.bipush X0.here hx rfl (hb hby at_236) (XS.icmpYes X0.here hx rfl (pc0 := 238) (pc' := 266) rfl (hb hby at_238) rfl (feq (by decide : ¬ ((8 : Int32) = (7 : Int32)))).2 (by decide) (by decide) kz)) ?_
        obtain ⟨T133, X133, e133, st133⟩ := getS2 X0 hx hZ hown (host := "") (Or.inl (hw _ (List.mem_of_getElem? (i := 17) rfl))) Via.refl e0 P.2.2.2.2.2.2.1 (g := (mkF m 266 #[.val (.int p1), .val (.int p2), .val (.int p3), .val (.int (8 : Int32)), .val (.int n), .val (.int (0 : Int32)), .val (.int (0 : Int32)), .val (.int (0 : Int32)), .val (.int (1 : Int32)), .unset, .unset] [])) rfl (hb hby at_266)
        refine Goes.by st133 ?_
        refine Goes.by (fun _ kz => XS.astore X133.here hx rfl (hb hby at_269) rfl rfl (l' := #[.val (.int p1), .val (.int p2), .val (.int p3), .val (.int (8 : Int32)), .val (.int n), .val (.int (0 : Int32)), .val (.int (0 : Int32)), .val (.int (0 : Int32)), .val (.int (1 : Int32)), .val (.ref (w 3)), .unset]) rfl (XS.iload X133.here hx rfl (hb hby at_271) rfl (XS.istore X133.here hx rfl (hb hby at_273) rfl (l' := #[.val (.int p1), .val (.int p2), .val (.int p3), .val (.int (8 : Int32)), .val (.int n), .val (.int (0 : Int32)), .val (.int (0 : Int32)), .val (.int (0 : Int32)), .val (.int (1 : Int32)), .val (.ref (w 3)), .val (.int (0 : Int32))]) rfl kz))) ?_
        show Goes p e below (T133.setTop (mkF m 275 #[.val (.int p1), .val (.int p2), .val (.int p3), .val (.int (8 : Int32)), .val (.int n), .val (.int (0 : Int32)), .val (.int (0 : Int32)), .val (.int (0 : Int32)), .val (.int (1 : Int32)), .val (.ref (w 3)), .val (.int (0 : Int32))] [])) _
        refine Goes.by (fun _ kz => XS.aload X133.here hx rfl (hb hby at_275) rfl rfl (XS.iload X133.here hx rfl (hb hby at_277) rfl (XS.iload X133.here hx rfl (hb hby at_279) rfl kz))) ?_
        obtain ⟨cq135, kq135, q135a, q135b, q135c⟩ := isOf hZ e133 P.2.2.2.2.2.2.2.1
        obtain ⟨_, _, ⟨T135, L135, k135, n135⟩, -, X135, ⟨Lc135, hQ135, l135, y135, z135⟩, st135⟩ := X133.virtualBack hx (y := (⟨"com/example/entail/entail/model/Scope", "reaches", "(IZ)Z"⟩ : MethodName)) (z := (⟨"com/example/entail/entail/model/Scope", "reaches", "(IZ)Z"⟩ : MethodName)) hown (mvT hZ (hw _ (List.mem_of_getElem? (i := 4) rfl))) (mvT hZ (hw _ (List.mem_of_getElem? (i := 5) rfl))) (notFace_of_selects (args := #[]) (mvT hZ (hw _ (List.mem_of_getElem? (i := 7) rfl)))) (mvT hZ (hw _ (List.mem_of_getElem? (i := 7) rfl))) (mvT hZ (hw _ (List.mem_of_getElem? (i := 6) rfl))) (by decide) (backOf (W := 0) (r1_44 l Z a0 hw [] h0 n0 Z0 n w hn0 hn1 hn3 P) hZ (hw _ (List.mem_of_getElem? (i := 8) rfl)) (hw _ (List.mem_of_getElem? (i := 2) rfl)) (by decide) (by decide)) q135a q135c (g := (mkF m 281 #[.val (.int p1), .val (.int p2), .val (.int p3), .val (.int (8 : Int32)), .val (.int n), .val (.int (0 : Int32)), .val (.int (0 : Int32)), .val (.int (0 : Int32)), .val (.int (1 : Int32)), .val (.ref (w 3)), .val (.int (0 : Int32))] [(.int (0 : Int32)), (.int n), (.ref (w 3))])) rfl (by rw [hml]; rfl) (Steps.refl _) (argsL := [(.int n), (.int (0 : Int32))]) (rest := []) (lenOf pd0 rfl) rfl (by show 2 * 0 + _ ≤ _; exact Nat.le_of_eq rfl) (hb hby at_281) (fun _ _ => ⟨rfl, e133, (by decide : 0 + 0 ≤ _), (by decide : 0 + 0 ≤ _)⟩)
        dsimp only [Pt.U, Pt.locs, Pt.cells, Pt.slots] at X135 l135 y135 z135 st135 hQ135
        subst l135 y135 z135
        obtain ⟨rfl, Nq135, e135⟩ := hQ135
        have N135 := Fr.app N0 Nq135
        refine Goes.tr st135 ?_
        refine Goes.by (fun _ kz => XS.iload X135.here hx rfl (hb hby at_284) rfl (XS.icmpNo X135.here hx rfl (hb hby at_286) rfl (teq (by decide : (0 : Int32) = (0 : Int32))).2 (XS.iconst X135.here hx rfl (hb hby at_289) kz))) ?_
        show Goes p e below (T135.setTop (mkF m 290 #[.val (.int p1), .val (.int p2), .val (.int p3), .val (.int (8 : Int32)), .val (.int n), .val (.int (0 : Int32)), .val (.int (0 : Int32)), .val (.int (0 : Int32)), .val (.int (1 : Int32)), .val (.ref (w 3)), .val (.int (0 : Int32))] [(.int (1 : Int32))])) _
        refine Goes.by (fun _ kz => XS.goto X135.here hx rfl (pc0 := 290) (pc' := 294) rfl (hb hby at_290) (by decide) (by decide) kz) ?_
        show Goes p e below (T135.setTop (mkF m 294 #[.val (.int p1), .val (.int p2), .val (.int p3), .val (.int (8 : Int32)), .val (.int n), .val (.int (0 : Int32)), .val (.int (0 : Int32)), .val (.int (0 : Int32)), .val (.int (1 : Int32)), .val (.ref (w 3)), .val (.int (0 : Int32))] [(.int (1 : Int32))])) _
        obtain ⟨fs, hr, hrun, hended, hW, hsame⟩ := X135.leave (v := some (.int (1 : Int32))) (fun h => by rw [Bd.returns] at h; cases h)
        exact ⟨_, _, retN X135 hx (t := .boolean) Bd.returns (by simp) (hb hby at_294) hr, hrun, hended, _, _, rfl, ⟨rfl, N135⟩, ⟨_, rfl⟩, hW, hsame.mono (by decide) (by decide)⟩
    · rw [hff]
      show Goes p e below (s₁.setTop (mkF m 17 #[.val (.int p1), .val (.int p2), .val (.int p3), .val (.int ((p1 &&& (2147483647 : Int32)) % (9 : Int32))), .val (.int n), .unset, .unset, .unset, .unset, .unset, .unset] [(.int (1 : Int32))])) _
      refine Goes.by (fun _ kz => XS.ifNo X0.here hx rfl (hb hby at_17) rfl ((if0 _ _).trans (feq (by decide : ¬ ((1 : Int32) = (0 : Int32)))).1) (XS.iconst X0.here hx rfl (hb hby at_20) (XS.goto X0.here hx rfl (pc0 := 21) (pc' := 25) rfl (hb hby at_21) (by decide) (by decide) kz))) ?_
      show Goes p e below (s₁.setTop (mkF m 25 #[.val (.int p1), .val (.int p2), .val (.int p3), .val (.int ((p1 &&& (2147483647 : Int32)) % (9 : Int32))), .val (.int n), .unset, .unset, .unset, .unset, .unset, .unset] [(.int (1 : Int32))])) _
      refine Goes.by (fun _ kz => XS.istore X0.here hx rfl (hb hby at_25) rfl (l' := #[.val (.int p1), .val (.int p2), .val (.int p3), .val (.int ((p1 &&& (2147483647 : Int32)) % (9 : Int32))), .val (.int n), .val (.int (1 : Int32)), .unset, .unset, .unset, .unset, .unset]) rfl (XS.iload X0.here hx rfl (hb hby at_27) rfl (XS.ifYes X0.here hx rfl (pc0 := 29) (pc' := 36) rfl (hb hby at_29) rfl ((if0 _ _).trans (feq hn0).2) (by decide) (by decide) kz))) ?_
      show Goes p e below (s₁.setTop (mkF m 36 #[.val (.int p1), .val (.int p2), .val (.int p3), .val (.int ((p1 &&& (2147483647 : Int32)) % (9 : Int32))), .val (.int n), .val (.int (1 : Int32)), .unset, .unset, .unset, .unset, .unset] [])) _
      refine Goes.by (fun _ kz => XS.iconst X0.here hx rfl (hb hby at_36) (XS.istore X0.here hx rfl (hb hby at_37) rfl (l' := #[.val (.int p1), .val (.int p2), .val (.int p3), .val (.int ((p1 &&& (2147483647 : Int32)) % (9 : Int32))), .val (.int n), .val (.int (1 : Int32)), .val (.int (0 : Int32)), .unset, .unset, .unset, .unset]) rfl (XS.iload X0.here hx rfl (hb hby at_39) rfl kz))) ?_
      show Goes p e below (s₁.setTop (mkF m 41 #[.val (.int p1), .val (.int p2), .val (.int p3), .val (.int ((p1 &&& (2147483647 : Int32)) % (9 : Int32))), .val (.int n), .val (.int (1 : Int32)), .val (.int (0 : Int32)), .unset, .unset, .unset, .unset] [(.int n)])) _
      refine Goes.by (fun _ kz => XS.iconst X0.here hx rfl (hb hby at_41) (XS.icmpYes X0.here hx rfl (pc0 := 42) (pc' := 49) rfl (hb hby at_42) rfl (feq hn1).2 (by decide) (by decide) (XS.iconst X0.here hx rfl (hb hby at_49) kz))) ?_
      show Goes p e below (s₁.setTop (mkF m 50 #[.val (.int p1), .val (.int p2), .val (.int p3), .val (.int ((p1 &&& (2147483647 : Int32)) % (9 : Int32))), .val (.int n), .val (.int (1 : Int32)), .val (.int (0 : Int32)), .unset, .unset, .unset, .unset] [(.int (0 : Int32))])) _
      refine Goes.by (fun _ kz => XS.istore X0.here hx rfl (hb hby at_50) rfl (l' := #[.val (.int p1), .val (.int p2), .val (.int p3), .val (.int ((p1 &&& (2147483647 : Int32)) % (9 : Int32))), .val (.int n), .val (.int (1 : Int32)), .val (.int (0 : Int32)), .val (.int (0 : Int32)), .unset, .unset, .unset]) rfl (XS.iload X0.here hx rfl (hb hby at_52) rfl (XS.iconst X0.here hx rfl (hb hby at_54) kz))) ?_
      show Goes p e below (s₁.setTop (mkF m 55 #[.val (.int p1), .val (.int p2), .val (.int p3), .val (.int ((p1 &&& (2147483647 : Int32)) % (9 : Int32))), .val (.int n), .val (.int (1 : Int32)), .val (.int (0 : Int32)), .val (.int (0 : Int32)), .unset, .unset, .unset] [(.int (1 : Int32)), (.int n)])) _
      refine Goes.by (fun _ kz => XS.icmpNo X0.here hx rfl (hb hby at_55) rfl (flt hn2).1 (XS.iconst X0.here hx rfl (hb hby at_58) (XS.goto X0.here hx rfl (pc0 := 59) (pc' := 63) rfl (hb hby at_59) (by decide) (by decide) kz))) ?_
      show Goes p e below (s₁.setTop (mkF m 63 #[.val (.int p1), .val (.int p2), .val (.int p3), .val (.int ((p1 &&& (2147483647 : Int32)) % (9 : Int32))), .val (.int n), .val (.int (1 : Int32)), .val (.int (0 : Int32)), .val (.int (0 : Int32)), .unset, .unset, .unset] [(.int (1 : Int32))])) _
      refine Goes.by (fun _ kz => XS.istore X0.here hx rfl (hb hby at_63) rfl (l' := #[.val (.int p1), .val (.int p2), .val (.int p3), .val (.int ((p1 &&& (2147483647 : Int32)) % (9 : Int32))), .val (.int n), .val (.int (1 : Int32)), .val (.int (0 : Int32)), .val (.int (0 : Int32)), .val (.int (1 : Int32)), .unset, .unset]) rfl kz) ?_
      show Goes p e below (s₁.setTop (mkF m 65 #[.val (.int p1), .val (.int p2), .val (.int p3), .val (.int ((p1 &&& (2147483647 : Int32)) % (9 : Int32))), .val (.int n), .val (.int (1 : Int32)), .val (.int (0 : Int32)), .val (.int (0 : Int32)), .val (.int (1 : Int32)), .unset, .unset] [])) _
      have hsi := own_split p1
      obtain ⟨i, hi⟩ : ∃ z, z = ((p1 &&& (2147483647 : Int32)) % (9 : Int32)) := ⟨_, rfl⟩
      rw [← hi] at hsi ⊢
      rcases hsi with rfl | rfl | rfl | rfl | rfl | rfl | rfl | rfl | rfl
      · show Goes p e below (s₁.setTop (mkF m 65 #[.val (.int p1), .val (.int p2), .val (.int p3), .val (.int (0 : Int32)), .val (.int n), .val (.int (1 : Int32)), .val (.int (0 : Int32)), .val (.int (0 : Int32)), .val (.int (1 : Int32)), .unset, .unset] [])) _
        refine Goes.by (fun _ kz => XS.iloadN X0.here hx rfl (hb hby at_65) rfl (XS.ifNo X0.here hx rfl (hb hby at_66) rfl ((if0 _ _).trans (teq (by decide : (0 : Int32) = (0 : Int32))).2) kz)) ?_
        obtain ⟨T136, X136, e136, st136⟩ := getS2 X0 hx hZ hown (host := "") (Or.inl (hw _ (List.mem_of_getElem? (i := 1) rfl))) Via.refl e0 P.1 (g := (mkF m 69 #[.val (.int p1), .val (.int p2), .val (.int p3), .val (.int (0 : Int32)), .val (.int n), .val (.int (1 : Int32)), .val (.int (0 : Int32)), .val (.int (0 : Int32)), .val (.int (1 : Int32)), .unset, .unset] [])) rfl (hb hby at_69)
        refine Goes.by st136 ?_
        refine Goes.by (fun _ kz => XS.astore X136.here hx rfl (hb hby at_72) rfl rfl (l' := #[.val (.int p1), .val (.int p2), .val (.int p3), .val (.int (0 : Int32)), .val (.int n), .val (.int (1 : Int32)), .val (.int (0 : Int32)), .val (.int (0 : Int32)), .val (.int (1 : Int32)), .val (.ref (w 0)), .unset]) rfl (XS.iconst X136.here hx rfl (hb hby at_74) (XS.istore X136.here hx rfl (hb hby at_75) rfl (l' := #[.val (.int p1), .val (.int p2), .val (.int p3), .val (.int (0 : Int32)), .val (.int n), .val (.int (1 : Int32)), .val (.int (0 : Int32)), .val (.int (0 : Int32)), .val (.int (1 : Int32)), .val (.ref (w 0)), .val (.int (1 : Int32))]) rfl kz))) ?_
        show Goes p e below (T136.setTop (mkF m 77 #[.val (.int p1), .val (.int p2), .val (.int p3), .val (.int (0 : Int32)), .val (.int n), .val (.int (1 : Int32)), .val (.int (0 : Int32)), .val (.int (0 : Int32)), .val (.int (1 : Int32)), .val (.ref (w 0)), .val (.int (1 : Int32))] [])) _
        refine Goes.by (fun _ kz => XS.goto X136.here hx rfl (pc0 := 77) (pc' := 275) rfl (hb hby at_77) (by decide) (by decide) (XS.aload X136.here hx rfl (hb hby at_275) rfl rfl (XS.iload X136.here hx rfl (hb hby at_277) rfl kz))) ?_
        show Goes p e below (T136.setTop (mkF m 279 #[.val (.int p1), .val (.int p2), .val (.int p3), .val (.int (0 : Int32)), .val (.int n), .val (.int (1 : Int32)), .val (.int (0 : Int32)), .val (.int (0 : Int32)), .val (.int (1 : Int32)), .val (.ref (w 0)), .val (.int (1 : Int32))] [(.int n), (.ref (w 0))])) _
        refine Goes.by (fun _ kz => XS.iload X136.here hx rfl (hb hby at_279) rfl kz) ?_
        obtain ⟨cq138, kq138, q138a, q138b, q138c⟩ := isOf hZ e136 P.2.1
        obtain ⟨_, _, ⟨T138, L138, k138, n138⟩, -, X138, ⟨Lc138, hQ138, l138, y138, z138⟩, st138⟩ := X136.virtualBack hx (y := (⟨"com/example/entail/entail/model/Scope", "reaches", "(IZ)Z"⟩ : MethodName)) (z := (⟨"com/example/entail/entail/model/Scope", "reaches", "(IZ)Z"⟩ : MethodName)) hown (mvT hZ (hw _ (List.mem_of_getElem? (i := 4) rfl))) (mvT hZ (hw _ (List.mem_of_getElem? (i := 5) rfl))) (notFace_of_selects (args := #[]) (mvT hZ (hw _ (List.mem_of_getElem? (i := 7) rfl)))) (mvT hZ (hw _ (List.mem_of_getElem? (i := 7) rfl))) (mvT hZ (hw _ (List.mem_of_getElem? (i := 6) rfl))) (by decide) (backOf (W := 0) (r1_45 l Z a0 hw [] h0 n0 Z0 n w hn0 hn1 hn3 P) hZ (hw _ (List.mem_of_getElem? (i := 8) rfl)) (hw _ (List.mem_of_getElem? (i := 2) rfl)) (by decide) (by decide)) q138a q138c (g := (mkF m 281 #[.val (.int p1), .val (.int p2), .val (.int p3), .val (.int (0 : Int32)), .val (.int n), .val (.int (1 : Int32)), .val (.int (0 : Int32)), .val (.int (0 : Int32)), .val (.int (1 : Int32)), .val (.ref (w 0)), .val (.int (1 : Int32))] [(.int (1 : Int32)), (.int n), (.ref (w 0))])) rfl (by rw [hml]; rfl) (Steps.refl _) (argsL := [(.int n), (.int (1 : Int32))]) (rest := []) (lenOf pd0 rfl) rfl (by show 2 * 0 + _ ≤ _; exact Nat.le_of_eq rfl) (hb hby at_281) (fun _ _ => ⟨rfl, e136, (by decide : 0 + 0 ≤ _), (by decide : 0 + 0 ≤ _)⟩)
        dsimp only [Pt.U, Pt.locs, Pt.cells, Pt.slots] at X138 l138 y138 z138 st138 hQ138
        subst l138 y138 z138
        obtain ⟨rfl, Nq138, e138⟩ := hQ138
        have N138 := Fr.app N0 Nq138
        refine Goes.tr st138 ?_
        refine Goes.by (fun _ kz => XS.iload X138.here hx rfl (hb hby at_284) rfl (XS.icmpNo X138.here hx rfl (hb hby at_286) rfl (teq (by decide : (1 : Int32) = (1 : Int32))).2 (XS.iconst X138.here hx rfl (hb hby at_289) kz))) ?_
        show Goes p e below (T138.setTop (mkF m 290 #[.val (.int p1), .val (.int p2), .val (.int p3), .val (.int (0 : Int32)), .val (.int n), .val (.int (1 : Int32)), .val (.int (0 : Int32)), .val (.int (0 : Int32)), .val (.int (1 : Int32)), .val (.ref (w 0)), .val (.int (1 : Int32))] [(.int (1 : Int32))])) _
        refine Goes.by (fun _ kz => XS.goto X138.here hx rfl (pc0 := 290) (pc' := 294) rfl (hb hby at_290) (by decide) (by decide) kz) ?_
        show Goes p e below (T138.setTop (mkF m 294 #[.val (.int p1), .val (.int p2), .val (.int p3), .val (.int (0 : Int32)), .val (.int n), .val (.int (1 : Int32)), .val (.int (0 : Int32)), .val (.int (0 : Int32)), .val (.int (1 : Int32)), .val (.ref (w 0)), .val (.int (1 : Int32))] [(.int (1 : Int32))])) _
        obtain ⟨fs, hr, hrun, hended, hW, hsame⟩ := X138.leave (v := some (.int (1 : Int32))) (fun h => by rw [Bd.returns] at h; cases h)
        exact ⟨_, _, retN X138 hx (t := .boolean) Bd.returns (by simp) (hb hby at_294) hr, hrun, hended, _, _, rfl, ⟨rfl, N138⟩, ⟨_, rfl⟩, hW, hsame.mono (by decide) (by decide)⟩
      · show Goes p e below (s₁.setTop (mkF m 65 #[.val (.int p1), .val (.int p2), .val (.int p3), .val (.int (1 : Int32)), .val (.int n), .val (.int (1 : Int32)), .val (.int (0 : Int32)), .val (.int (0 : Int32)), .val (.int (1 : Int32)), .unset, .unset] [])) _
        refine Goes.by (fun _ kz => XS.iloadN X0.here hx rfl (hb hby at_65) rfl (XS.ifYes X0.here hx rfl (pc0 := 66) (pc' := 80) rfl (hb hby at_66) rfl ((if0 _ _).trans (feq (by decide : ¬ ((1 : Int32) = (0 : Int32)))).2) (by decide) (by decide) (XS.iloadN X0.here hx rfl (hb hby at_80) rfl kz))) ?_
        show Goes p e below (s₁.setTop (mkF m 81 #[.val (.int p1), .val (.int p2), .val (.int p3), .val (.int (1 : Int32)), .val (.int n), .val (.int (1 : Int32)), .val (.int (0 : Int32)), .val (.int (0 : Int32)), .val (.int (1 : Int32)), .unset, .unset] [(.int (1 : Int32))])) _
        refine Goes.by (fun _ kz => XS.iconst X0.here hx rfl (hb hby at_81) (XS.icmpNo X0.here hx rfl (hb hby at_82) rfl (teq (by decide : (1 : Int32) = (1 : Int32))).2 kz)) ?_
        obtain ⟨T139, X139, e139, st139⟩ := getS2 X0 hx hZ hown (host := "") (Or.inl (hw _ (List.mem_of_getElem? (i := 11) rfl))) Via.refl e0 P.2.2.1 (g := (mkF m 85 #[.val (.int p1), .val (.int p2), .val (.int p3), .val (.int (1 : Int32)), .val (.int n), .val (.int (1 : Int32)), .val (.int (0 : Int32)), .val (.int (0 : Int32)), .val (.int (1 : Int32)), .unset, .unset] [])) rfl (hb hby at_85)
        refine Goes.by st139 ?_
        refine Goes.by (fun _ kz => XS.astore X139.here hx rfl (hb hby at_88) rfl rfl (l' := #[.val (.int p1), .val (.int p2), .val (.int p3), .val (.int (1 : Int32)), .val (.int n), .val (.int (1 : Int32)), .val (.int (0 : Int32)), .val (.int (0 : Int32)), .val (.int (1 : Int32)), .val (.ref (w 1)), .unset]) rfl (XS.iload X139.here hx rfl (hb hby at_90) rfl (XS.ifNo X139.here hx rfl (hb hby at_92) rfl ((if0 _ _).trans (teq (by decide : (0 : Int32) = (0 : Int32))).2) kz))) ?_
        show Goes p e below (T139.setTop (mkF m 95 #[.val (.int p1), .val (.int p2), .val (.int p3), .val (.int (1 : Int32)), .val (.int n), .val (.int (1 : Int32)), .val (.int (0 : Int32)), .val (.int (0 : Int32)), .val (.int (1 : Int32)), .val (.ref (w 1)), .unset] [])) _
        refine Goes.by (fun _ kz => XS.iload X139.here hx rfl (hb hby at_95) rfl (XS.ifNo X139.here hx rfl (hb hby at_97) rfl ((if0 _ _).trans (feq (by decide : ¬ ((1 : Int32) = (0 : Int32)))).1) (XS.iconst X139.here hx rfl (hb hby at_100) kz))) ?_
        show Goes p e below (T139.setTop (mkF m 101 #[.val (.int p1), .val (.int p2), .val (.int p3), .val (.int (1 : Int32)), .val (.int n), .val (.int (1 : Int32)), .val (.int (0 : Int32)), .val (.int (0 : Int32)), .val (.int (1 : Int32)), .val (.ref (w 1)), .unset] [(.int (1 : Int32))])) _
        refine Goes.by (fun _ kz => XS.goto X139.here hx rfl (pc0 := 101) (pc' := 105) rfl (hb hby at_101) (by decide) (by decide) (XS.istore X139.here hx rfl (hb hby at_105) rfl (l' := #[.val (.int p1), .val (.int p2), .val (.int p3), .val (.int (1 : Int32)), .val (.int n), .val (.int (1 : Int32)), .val (.int (0 : Int32)), .val (.int (0 : Int32)), .val (.int (1 : Int32)), .val (.ref (w 1)), .val (.int (1 : Int32))]) rfl (XS.goto X139.here hx rfl (pc0 := 107) (pc' := 275) rfl (hb hby at_107) (by decide) (by decide) kz))) ?_
        show Goes p e below (T139.setTop (mkF m 275 #[.val (.int p1), .val (.int p2), .val (.int p3), .val (.int (1 : Int32)), .val (.int n), .val (.int (1 : Int32)), .val (.int (0 : Int32)), .val (.int (0 : Int32)), .val (.int (1 : Int32)), .val (.ref (w 1)), .val (.int (1 : Int32))] [])) _
        refine Goes.by (fun _ kz => XS.aload X139.here hx rfl (hb hby at_275) rfl rfl (XS.iload X139.here hx rfl (hb hby at_277) rfl (XS.iload X139.here hx rfl (hb hby at_279) rfl kz))) ?_
        obtain ⟨cq141, kq141, q141a, q141b, q141c⟩ := isOf hZ e139 P.2.2.2.1
        obtain ⟨_, _, ⟨T141, L141, k141, n141⟩, -, X141, ⟨Lc141, hQ141, l141, y141, z141⟩, st141⟩ := X139.virtualBack hx (y := (⟨"com/example/entail/entail/model/Scope", "reaches", "(IZ)Z"⟩ : MethodName)) (z := (⟨"com/example/entail/entail/model/Scope", "reaches", "(IZ)Z"⟩ : MethodName)) hown (mvT hZ (hw _ (List.mem_of_getElem? (i := 4) rfl))) (mvT hZ (hw _ (List.mem_of_getElem? (i := 5) rfl))) (notFace_of_selects (args := #[]) (mvT hZ (hw _ (List.mem_of_getElem? (i := 7) rfl)))) (mvT hZ (hw _ (List.mem_of_getElem? (i := 7) rfl))) (mvT hZ (hw _ (List.mem_of_getElem? (i := 6) rfl))) (by decide) (backOf (W := 0) (r1_46 l Z a0 hw [] h0 n0 Z0 n w hn0 hn1 hn3 P) hZ (hw _ (List.mem_of_getElem? (i := 8) rfl)) (hw _ (List.mem_of_getElem? (i := 2) rfl)) (by decide) (by decide)) q141a q141c (g := (mkF m 281 #[.val (.int p1), .val (.int p2), .val (.int p3), .val (.int (1 : Int32)), .val (.int n), .val (.int (1 : Int32)), .val (.int (0 : Int32)), .val (.int (0 : Int32)), .val (.int (1 : Int32)), .val (.ref (w 1)), .val (.int (1 : Int32))] [(.int (1 : Int32)), (.int n), (.ref (w 1))])) rfl (by rw [hml]; rfl) (Steps.refl _) (argsL := [(.int n), (.int (1 : Int32))]) (rest := []) (lenOf pd0 rfl) rfl (by show 2 * 0 + _ ≤ _; exact Nat.le_of_eq rfl) (hb hby at_281) (fun _ _ => ⟨rfl, e139, (by decide : 0 + 0 ≤ _), (by decide : 0 + 0 ≤ _)⟩)
        dsimp only [Pt.U, Pt.locs, Pt.cells, Pt.slots] at X141 l141 y141 z141 st141 hQ141
        subst l141 y141 z141
        obtain ⟨rfl, Nq141, e141⟩ := hQ141
        have N141 := Fr.app N0 Nq141
        refine Goes.tr st141 ?_
        refine Goes.by (fun _ kz => XS.iload X141.here hx rfl (hb hby at_284) rfl (XS.icmpNo X141.here hx rfl (hb hby at_286) rfl (teq (by decide : (1 : Int32) = (1 : Int32))).2 (XS.iconst X141.here hx rfl (hb hby at_289) kz))) ?_
        show Goes p e below (T141.setTop (mkF m 290 #[.val (.int p1), .val (.int p2), .val (.int p3), .val (.int (1 : Int32)), .val (.int n), .val (.int (1 : Int32)), .val (.int (0 : Int32)), .val (.int (0 : Int32)), .val (.int (1 : Int32)), .val (.ref (w 1)), .val (.int (1 : Int32))] [(.int (1 : Int32))])) _
        refine Goes.by (fun _ kz => XS.goto X141.here hx rfl (pc0 := 290) (pc' := 294) rfl (hb hby at_290) (by decide) (by decide) kz) ?_
        show Goes p e below (T141.setTop (mkF m 294 #[.val (.int p1), .val (.int p2), .val (.int p3), .val (.int (1 : Int32)), .val (.int n), .val (.int (1 : Int32)), .val (.int (0 : Int32)), .val (.int (0 : Int32)), .val (.int (1 : Int32)), .val (.ref (w 1)), .val (.int (1 : Int32))] [(.int (1 : Int32))])) _
        obtain ⟨fs, hr, hrun, hended, hW, hsame⟩ := X141.leave (v := some (.int (1 : Int32))) (fun h => by rw [Bd.returns] at h; cases h)
        exact ⟨_, _, retN X141 hx (t := .boolean) Bd.returns (by simp) (hb hby at_294) hr, hrun, hended, _, _, rfl, ⟨rfl, N141⟩, ⟨_, rfl⟩, hW, hsame.mono (by decide) (by decide)⟩
      · show Goes p e below (s₁.setTop (mkF m 65 #[.val (.int p1), .val (.int p2), .val (.int p3), .val (.int (2 : Int32)), .val (.int n), .val (.int (1 : Int32)), .val (.int (0 : Int32)), .val (.int (0 : Int32)), .val (.int (1 : Int32)), .unset, .unset] [])) _
        refine Goes.by (fun _ kz => XS.iloadN X0.here hx rfl (hb hby at_65) rfl (XS.ifYes X0.here hx rfl (pc0 := 66) (pc' := 80) rfl (hb hby at_66) rfl ((if0 _ _).trans (feq (by decide : ¬ ((2 : Int32) = (0 : Int32)))).2) (by decide) (by decide) (XS.iloadN X0.here hx rfl (hb hby at_80) rfl kz))) ?_
        show Goes p e below (s₁.setTop (mkF m 81 #[.val (.int p1), .val (.int p2), .val (.int p3), .val (.int (2 : Int32)), .val (.int n), .val (.int (1 : Int32)), .val (.int (0 : Int32)), .val (.int (0 : Int32)), .val (.int (1 : Int32)), .unset, .unset] [(.int (2 : Int32))])) _
        refine Goes.by (fun _ kz => XS.iconst X0.here hx rfl (hb hby at_81) (XS.icmpYes X0.here hx rfl (pc0 := 82) (pc' := 110) rfl (hb hby at_82) rfl (feq (by decide : ¬ ((2 : Int32) = (1 : Int32)))).2 (by decide) (by decide) (XS.iloadN X0.here hx rfl (hb hby at_110) rfl kz))) ?_
        show Goes p e below (s₁.setTop (mkF m 111 #[.val (.int p1), .val (.int p2), .val (.int p3), .val (.int (2 : Int32)), .val (.int n), .val (.int (1 : Int32)), .val (.int (0 : Int32)), .val (.int (0 : Int32)), .val (.int (1 : Int32)), .unset, .unset] [(.int (2 : Int32))])) _
        refine Goes.by (fun _ kz => XS.iconst X0.here hx rfl (hb hby at_111) (XS.icmpNo X0.here hx rfl (hb hby at_112) rfl (teq (by decide : (2 : Int32) = (2 : Int32))).2 kz)) ?_
        obtain ⟨T142, X142, e142, st142⟩ := getS2 X0 hx hZ hown (host := "") (Or.inl (hw _ (List.mem_of_getElem? (i := 15) rfl))) Via.refl e0 P.2.2.2.2.1 (g := (mkF m 115 #[.val (.int p1), .val (.int p2), .val (.int p3), .val (.int (2 : Int32)), .val (.int n), .val (.int (1 : Int32)), .val (.int (0 : Int32)), .val (.int (0 : Int32)), .val (.int (1 : Int32)), .unset, .unset] [])) rfl (hb hby at_115)
        refine Goes.by st142 ?_
        refine Goes.by (fun _ kz => XS.astore X142.here hx rfl (hb hby at_118) rfl rfl (l' := #[.val (.int p1), .val (.int p2), .val (.int p3), .val (.int (2 : Int32)), .val (.int n), .val (.int (1 : Int32)), .val (.int (0 : Int32)), .val (.int (0 : Int32)), .val (.int (1 : Int32)), .val (.ref (w 2)), .unset]) rfl (XS.iload X142.here hx rfl (hb hby at_120) rfl (XS.ifNo X142.here hx rfl (hb hby at_122) rfl ((if0 _ _).trans (teq (by decide : (0 : Int32) = (0 : Int32))).2) kz))) ?_
        show Goes p e below (T142.setTop (mkF m 125 #[.val (.int p1), .val (.int p2), .val (.int p3), .val (.int (2 : Int32)), .val (.int n), .val (.int (1 : Int32)), .val (.int (0 : Int32)), .val (.int (0 : Int32)), .val (.int (1 : Int32)), .val (.ref (w 2)), .unset] [])) _
        refine Goes.by (fun _ kz => XS.iload X142.here hx rfl (hb hby at_125) rfl (XS.ifYes X142.here hx rfl (pc0 := 127) (pc' := 134) rfl (hb hby at_127) rfl ((if0 _ _).trans (teq (by decide : (0 : Int32) = (0 : Int32))).1) (by decide) (by decide) (XS.iconst X142.here hx rfl (hb hby at_134) kz))) ?_
        show Goes p e below (T142.setTop (mkF m 135 #[.val (.int p1), .val (.int p2), .val (.int p3), .val (.int (2 : Int32)), .val (.int n), .val (.int (1 : Int32)), .val (.int (0 : Int32)), .val (.int (0 : Int32)), .val (.int (1 : Int32)), .val (.ref (w 2)), .unset] [(.int (0 : Int32))])) _
        refine Goes.by (fun _ kz => XS.istore X142.here hx rfl (hb hby at_135) rfl (l' := #[.val (.int p1), .val (.int p2), .val (.int p3), .val (.int (2 : Int32)), .val (.int n), .val (.int (1 : Int32)), .val (.int (0 : Int32)), .val (.int (0 : Int32)), .val (.int (1 : Int32)), .val (.ref (w 2)), .val (.int (0 : Int32))]) rfl (XS.goto X142.here hx rfl (pc0 := 137) (pc' := 275) rfl (hb hby at_137) (by decide) (by decide) (XS.aload X142.here hx rfl (hb hby at_275) rfl rfl kz))) ?_
        show Goes p e below (T142.setTop (mkF m 277 #[.val (.int p1), .val (.int p2), .val (.int p3), .val (.int (2 : Int32)), .val (.int n), .val (.int (1 : Int32)), .val (.int (0 : Int32)), .val (.int (0 : Int32)), .val (.int (1 : Int32)), .val (.ref (w 2)), .val (.int (0 : Int32))] [(.ref (w 2))])) _
        refine Goes.by (fun _ kz => XS.iload X142.here hx rfl (hb hby at_277) rfl (XS.iload X142.here hx rfl (hb hby at_279) rfl kz)) ?_
        obtain ⟨cq144, kq144, q144a, q144b, q144c⟩ := isOf hZ e142 P.2.2.2.2.2.1
        obtain ⟨_, _, ⟨T144, L144, k144, n144⟩, -, X144, ⟨Lc144, hQ144, l144, y144, z144⟩, st144⟩ := X142.virtualBack hx (y := (⟨"com/example/entail/entail/model/Scope", "reaches", "(IZ)Z"⟩ : MethodName)) (z := (⟨"com/example/entail/entail/model/Scope", "reaches", "(IZ)Z"⟩ : MethodName)) hown (mvT hZ (hw _ (List.mem_of_getElem? (i := 4) rfl))) (mvT hZ (hw _ (List.mem_of_getElem? (i := 5) rfl))) (notFace_of_selects (args := #[]) (mvT hZ (hw _ (List.mem_of_getElem? (i := 7) rfl)))) (mvT hZ (hw _ (List.mem_of_getElem? (i := 7) rfl))) (mvT hZ (hw _ (List.mem_of_getElem? (i := 6) rfl))) (by decide) (backOf (W := 0) (r1_47 l Z a0 hw [] h0 n0 Z0 n w hn0 hn1 hn3 P) hZ (hw _ (List.mem_of_getElem? (i := 8) rfl)) (hw _ (List.mem_of_getElem? (i := 2) rfl)) (by decide) (by decide)) q144a q144c (g := (mkF m 281 #[.val (.int p1), .val (.int p2), .val (.int p3), .val (.int (2 : Int32)), .val (.int n), .val (.int (1 : Int32)), .val (.int (0 : Int32)), .val (.int (0 : Int32)), .val (.int (1 : Int32)), .val (.ref (w 2)), .val (.int (0 : Int32))] [(.int (1 : Int32)), (.int n), (.ref (w 2))])) rfl (by rw [hml]; rfl) (Steps.refl _) (argsL := [(.int n), (.int (1 : Int32))]) (rest := []) (lenOf pd0 rfl) rfl (by show 2 * 0 + _ ≤ _; exact Nat.le_of_eq rfl) (hb hby at_281) (fun _ _ => ⟨rfl, e142, (by decide : 0 + 0 ≤ _), (by decide : 0 + 0 ≤ _)⟩)
        dsimp only [Pt.U, Pt.locs, Pt.cells, Pt.slots] at X144 l144 y144 z144 st144 hQ144
        subst l144 y144 z144
        obtain ⟨rfl, Nq144, e144⟩ := hQ144
        have N144 := Fr.app N0 Nq144
        refine Goes.tr st144 ?_
        refine Goes.by (fun _ kz => XS.iload X144.here hx rfl (hb hby at_284) rfl (XS.icmpNo X144.here hx rfl (hb hby at_286) rfl (teq (by decide : (0 : Int32) = (0 : Int32))).2 (XS.iconst X144.here hx rfl (hb hby at_289) kz))) ?_
        show Goes p e below (T144.setTop (mkF m 290 #[.val (.int p1), .val (.int p2), .val (.int p3), .val (.int (2 : Int32)), .val (.int n), .val (.int (1 : Int32)), .val (.int (0 : Int32)), .val (.int (0 : Int32)), .val (.int (1 : Int32)), .val (.ref (w 2)), .val (.int (0 : Int32))] [(.int (1 : Int32))])) _
        refine Goes.by (fun _ kz => XS.goto X144.here hx rfl (pc0 := 290) (pc' := 294) rfl (hb hby at_290) (by decide) (by decide) kz) ?_
        show Goes p e below (T144.setTop (mkF m 294 #[.val (.int p1), .val (.int p2), .val (.int p3), .val (.int (2 : Int32)), .val (.int n), .val (.int (1 : Int32)), .val (.int (0 : Int32)), .val (.int (0 : Int32)), .val (.int (1 : Int32)), .val (.ref (w 2)), .val (.int (0 : Int32))] [(.int (1 : Int32))])) _
        obtain ⟨fs, hr, hrun, hended, hW, hsame⟩ := X144.leave (v := some (.int (1 : Int32))) (fun h => by rw [Bd.returns] at h; cases h)
        exact ⟨_, _, retN X144 hx (t := .boolean) Bd.returns (by simp) (hb hby at_294) hr, hrun, hended, _, _, rfl, ⟨rfl, N144⟩, ⟨_, rfl⟩, hW, hsame.mono (by decide) (by decide)⟩
      · show Goes p e below (s₁.setTop (mkF m 65 #[.val (.int p1), .val (.int p2), .val (.int p3), .val (.int (3 : Int32)), .val (.int n), .val (.int (1 : Int32)), .val (.int (0 : Int32)), .val (.int (0 : Int32)), .val (.int (1 : Int32)), .unset, .unset] [])) _
        refine Goes.by (fun _ kz => XS.iloadN X0.here hx rfl (hb hby at_65) rfl (XS.ifYes X0.here hx rfl (pc0 := 66) (pc' := 80) rfl (hb hby at_66) rfl ((if0 _ _).trans (feq (by decide : ¬ ((3 : Int32) = (0 : Int32)))).2) (by decide) (by decide) (XS.iloadN X0.here hx rfl (hb hby at_80) rfl kz))) ?_
        show Goes p e below (s₁.setTop (mkF m 81 #[.val (.int p1), .val (.int p2), .val (.int p3), .val (.int (3 : Int32)), .val (.int n), .val (.int (1 : Int32)), .val (.int (0 : Int32)), .val (.int (0 : Int32)), .val (.int (1 : Int32)), .unset, .unset] [(.int (3 : Int32))])) _
        refine Goes.by (fun _ kz => XS.iconst X0.here hx rfl (hb hby at_81) (XS.icmpYes X0.here hx rfl (pc0 := 82) (pc' := 110) rfl (hb hby at_82) rfl (feq (by decide : ¬ ((3 : Int32) = (1 : Int32)))).2 (by decide) (by decide) (XS.iloadN X0.here hx rfl (hb hby at_110) rfl kz))) ?_
        show Goes p e below (s₁.setTop (mkF m 111 #[.val (.int p1), .val (.int p2), .val (.int p3), .val (.int (3 : Int32)), .val (.int n), .val (.int (1 : Int32)), .val (.int (0 : Int32)), .val (.int (0 : Int32)), .val (.int (1 : Int32)), .unset, .unset] [(.int (3 : Int32))])) _
        refine Goes.by (fun _ kz => XS.iconst X0.here hx rfl (hb hby at_111) (XS.icmpYes X0.here hx rfl (pc0 := 112) (pc' := 140) rfl (hb hby at_112) rfl (feq (by decide : ¬ ((3 : Int32) = (2 : Int32)))).2 (by decide) (by decide) (XS.iloadN X0.here hx rfl (hb hby at_140) rfl kz))) ?_
        show Goes p e below (s₁.setTop (mkF m 141 #[.val (.int p1), .val (.int p2), .val (.int p3), .val (.int (3 : Int32)), .val (.int n), .val (.int (1 : Int32)), .val (.int (0 : Int32)), .val (.int (0 : Int32)), .val (.int (1 : Int32)), .unset, .unset] [(.int (3 : Int32))])) _
        refine Goes.by (fun _ kz => XS.iconst X0.here hx rfl (hb hby at_141) (XS.icmpNo X0.here hx rfl (hb hby at_142) rfl (teq (by decide : (3 : Int32) = (3 : Int32))).2 kz)) ?_
        obtain ⟨T145, X145, e145, st145⟩ := getS2 X0 hx hZ hown (host := "") (Or.inl (hw _ (List.mem_of_getElem? (i := 25) rfl))) Via.refl e0 P.2.2.2.2.2.2.2.2.2.2.2.2.1 (g := (mkF m 145 #[.val (.int p1), .val (.int p2), .val (.int p3), .val (.int (3 : Int32)), .val (.int n), .val (.int (1 : Int32)), .val (.int (0 : Int32)), .val (.int (0 : Int32)), .val (.int (1 : Int32)), .unset, .unset] [])) rfl (hb hby at_145)
        refine Goes.by st145 ?_
        refine Goes.by (fun _ kz => XS.astore X145.here hx rfl (hb hby at_148) rfl rfl (l' := #[.val (.int p1), .val (.int p2), .val (.int p3), .val (.int (3 : Int32)), .val (.int n), .val (.int (1 : Int32)), .val (.int (0 : Int32)), .val (.int (0 : Int32)), .val (.int (1 : Int32)), .val (.ref (w 6)), .unset]) rfl (XS.iload X145.here hx rfl (hb hby at_150) rfl (XS.istore X145.here hx rfl (hb hby at_152) rfl (l' := #[.val (.int p1), .val (.int p2), .val (.int p3), .val (.int (3 : Int32)), .val (.int n), .val (.int (1 : Int32)), .val (.int (0 : Int32)), .val (.int (0 : Int32)), .val (.int (1 : Int32)), .val (.ref (w 6)), .val (.int (1 : Int32))]) rfl kz))) ?_
        show Goes p e below (T145.setTop (mkF m 154 #[.val (.int p1), .val (.int p2), .val (.int p3), .val (.int (3 : Int32)), .val (.int n), .val (.int (1 : Int32)), .val (.int (0 : Int32)), .val (.int (0 : Int32)), .val (.int (1 : Int32)), .val (.ref (w 6)), .val (.int (1 : Int32))] [])) _
        refine Goes.by (fun _ kz => XS.goto X145.here hx rfl (pc0 := 154) (pc' := 275) rfl (hb hby at_154) (by decide) (by decide) (XS.aload X145.here hx rfl (hb hby at_275) rfl rfl (XS.iload X145.here hx rfl (hb hby at_277) rfl kz))) ?_
        show Goes p e below (T145.setTop (mkF m 279 #[.val (.int p1), .val (.int p2), .val (.int p3), .val (.int (3 : Int32)), .val (.int n), .val (.int (1 : Int32)), .val (.int (0 : Int32)), .val (.int (0 : Int32)), .val (.int (1 : Int32)), .val (.ref (w 6)), .val (.int (1 : Int32))] [(.int n), (.ref (w 6))])) _
        refine Goes.by (fun _ kz => XS.iload X145.here hx rfl (hb hby at_279) rfl kz) ?_
        obtain ⟨cq147, kq147, q147a, q147b, q147c⟩ := isOf hZ e145 P.2.2.2.2.2.2.2.2.2.2.2.2.2.1
        obtain ⟨_, _, ⟨T147, L147, k147, n147⟩, -, X147, ⟨Lc147, hQ147, l147, y147, z147⟩, st147⟩ := X145.virtualBack hx (y := (⟨"com/example/entail/entail/model/Scope", "reaches", "(IZ)Z"⟩ : MethodName)) (z := (⟨"com/example/entail/entail/model/Scope", "reaches", "(IZ)Z"⟩ : MethodName)) hown (mvT hZ (hw _ (List.mem_of_getElem? (i := 4) rfl))) (mvT hZ (hw _ (List.mem_of_getElem? (i := 5) rfl))) (notFace_of_selects (args := #[]) (mvT hZ (hw _ (List.mem_of_getElem? (i := 7) rfl)))) (mvT hZ (hw _ (List.mem_of_getElem? (i := 7) rfl))) (mvT hZ (hw _ (List.mem_of_getElem? (i := 6) rfl))) (by decide) (backOf (W := 0) (r1_48 l Z a0 hw [] h0 n0 Z0 n w hn0 hn1 hn3 P) hZ (hw _ (List.mem_of_getElem? (i := 8) rfl)) (hw _ (List.mem_of_getElem? (i := 2) rfl)) (by decide) (by decide)) q147a q147c (g := (mkF m 281 #[.val (.int p1), .val (.int p2), .val (.int p3), .val (.int (3 : Int32)), .val (.int n), .val (.int (1 : Int32)), .val (.int (0 : Int32)), .val (.int (0 : Int32)), .val (.int (1 : Int32)), .val (.ref (w 6)), .val (.int (1 : Int32))] [(.int (1 : Int32)), (.int n), (.ref (w 6))])) rfl (by rw [hml]; rfl) (Steps.refl _) (argsL := [(.int n), (.int (1 : Int32))]) (rest := []) (lenOf pd0 rfl) rfl (by show 2 * 0 + _ ≤ _; exact Nat.le_of_eq rfl) (hb hby at_281) (fun _ _ => ⟨rfl, e145, (by decide : 0 + 0 ≤ _), (by decide : 0 + 0 ≤ _)⟩)
        dsimp only [Pt.U, Pt.locs, Pt.cells, Pt.slots] at X147 l147 y147 z147 st147 hQ147
        subst l147 y147 z147
        obtain ⟨rfl, Nq147, e147⟩ := hQ147
        have N147 := Fr.app N0 Nq147
        refine Goes.tr st147 ?_
        refine Goes.by (fun _ kz => XS.iload X147.here hx rfl (hb hby at_284) rfl (XS.icmpNo X147.here hx rfl (hb hby at_286) rfl (teq (by decide : (1 : Int32) = (1 : Int32))).2 (XS.iconst X147.here hx rfl (hb hby at_289) kz))) ?_
        show Goes p e below (T147.setTop (mkF m 290 #[.val (.int p1), .val (.int p2), .val (.int p3), .val (.int (3 : Int32)), .val (.int n), .val (.int (1 : Int32)), .val (.int (0 : Int32)), .val (.int (0 : Int32)), .val (.int (1 : Int32)), .val (.ref (w 6)), .val (.int (1 : Int32))] [(.int (1 : Int32))])) _
        refine Goes.by (fun _ kz => XS.goto X147.here hx rfl (pc0 := 290) (pc' := 294) rfl (hb hby at_290) (by decide) (by decide) kz) ?_
        show Goes p e below (T147.setTop (mkF m 294 #[.val (.int p1), .val (.int p2), .val (.int p3), .val (.int (3 : Int32)), .val (.int n), .val (.int (1 : Int32)), .val (.int (0 : Int32)), .val (.int (0 : Int32)), .val (.int (1 : Int32)), .val (.ref (w 6)), .val (.int (1 : Int32))] [(.int (1 : Int32))])) _
        obtain ⟨fs, hr, hrun, hended, hW, hsame⟩ := X147.leave (v := some (.int (1 : Int32))) (fun h => by rw [Bd.returns] at h; cases h)
        exact ⟨_, _, retN X147 hx (t := .boolean) Bd.returns (by simp) (hb hby at_294) hr, hrun, hended, _, _, rfl, ⟨rfl, N147⟩, ⟨_, rfl⟩, hW, hsame.mono (by decide) (by decide)⟩
      · show Goes p e below (s₁.setTop (mkF m 65 #[.val (.int p1), .val (.int p2), .val (.int p3), .val (.int (4 : Int32)), .val (.int n), .val (.int (1 : Int32)), .val (.int (0 : Int32)), .val (.int (0 : Int32)), .val (.int (1 : Int32)), .unset, .unset] [])) _
        refine Goes.by (fun _ kz => XS.iloadN X0.here hx rfl (hb hby at_65) rfl (XS.ifYes X0.here hx rfl (pc0 := 66) (pc' := 80) rfl (hb hby at_66) rfl ((if0 _ _).trans (feq (by decide : ¬ ((4 : Int32) = (0 : Int32)))).2) (by decide) (by decide) (XS.iloadN X0.here hx rfl (hb hby at_80) rfl kz))) ?_
        show Goes p e below (s₁.setTop (mkF m 81 #[.val (.int p1), .val (.int p2), .val (.int p3), .val (.int (4 : Int32)), .val (.int n), .val (.int (1 : Int32)), .val (.int (0 : Int32)), .val (.int (0 : Int32)), .val (.int (1 : Int32)), .unset, .unset] [(.int (4 : Int32))])) _
        refine Goes.by (fun _ kz => XS.iconst X0.here hx rfl (hb hby at_81) (XS.icmpYes X0.here hx rfl (pc0 := 82) (pc' := 110) rfl (hb hby at_82) rfl (feq (by decide : ¬ ((4 : Int32) = (1 : Int32)))).2 (by decide) (by decide) (XS.iloadN X0.here hx rfl (hb hby at_110) rfl kz))) ?_
        show Goes p e below (s₁.setTop (mkF m 111 #[.val (.int p1), .val (.int p2), .val (.int p3), .val (.int (4 : Int32)), .val (.int n), .val (.int (1 : Int32)), .val (.int (0 : Int32)), .val (.int (0 : Int32)), .val (.int (1 : Int32)), .unset, .unset] [(.int (4 : Int32))])) _
        refine Goes.by (fun _ kz => XS.iconst X0.here hx rfl (hb hby at_111) (XS.icmpYes X0.here hx rfl (pc0 := 112) (pc' := 140) rfl (hb hby at_112) rfl (feq (by decide : ¬ ((4 : Int32) = (2 : Int32)))).2 (by decide) (by decide) (XS.iloadN X0.here hx rfl (hb hby at_140) rfl kz))) ?_
        show Goes p e below (s₁.setTop (mkF m 141 #[.val (.int p1), .val (.int p2), .val (.int p3), .val (.int (4 : Int32)), .val (.int n), .val (.int (1 : Int32)), .val (.int (0 : Int32)), .val (.int (0 : Int32)), .val (.int (1 : Int32)), .unset, .unset] [(.int (4 : Int32))])) _
        refine Goes.by (fun _ kz => XS.iconst X0.here hx rfl (hb hby at_141) (XS.icmpYes X0.here hx rfl (pc0 := 142) (pc' := 157) rfl (hb hby at_142) rfl (feq (by decide : ¬ ((4 : Int32) = (3 : Int32)))).2 (by decide) (by decide) (XS.iloadN X0.here hx rfl (hb hby at_157) rfl kz))) ?_
        show Goes p e below (s₁.setTop (mkF m 158 #[.val (.int p1), .val (.int p2), .val (.int p3), .val (.int (4 : Int32)), .val (.int n), .val (.int (1 : Int32)), .val (.int (0 : Int32)), .val (.int (0 : Int32)), .val (.int (1 : Int32)), .unset, .unset] [(.int (4 : Int32))])) _
        refine Goes.by (fun _ kz => XS.iconst X0.here hx rfl (hb hby at_158) (XS.icmpNo X0.here hx rfl (hb hby at_159) rfl (teq (by decide : (4 : Int32) = (4 : Int32))).2 kz)) ?_
        obtain ⟨T148, X148, e148, st148⟩ := getS2 X0 hx hZ hown (host := "") (Or.inl (hw _ (List.mem_of_getElem? (i := 29) rfl))) Via.refl e0 P.2.2.2.2.2.2.2.2.2.2.2.2.2.2.1 (g := (mkF m 162 #[.val (.int p1), .val (.int p2), .val (.int p3), .val (.int (4 : Int32)), .val (.int n), .val (.int (1 : Int32)), .val (.int (0 : Int32)), .val (.int (0 : Int32)), .val (.int (1 : Int32)), .unset, .unset] [])) rfl (hb hby at_162)
        refine Goes.by st148 ?_
        refine Goes.by (fun _ kz => XS.astore X148.here hx rfl (hb hby at_165) rfl rfl (l' := #[.val (.int p1), .val (.int p2), .val (.int p3), .val (.int (4 : Int32)), .val (.int n), .val (.int (1 : Int32)), .val (.int (0 : Int32)), .val (.int (0 : Int32)), .val (.int (1 : Int32)), .val (.ref (w 7)), .unset]) rfl (XS.iload X148.here hx rfl (hb hby at_167) rfl (XS.ifNo X148.here hx rfl (hb hby at_169) rfl ((if0 _ _).trans (feq (by decide : ¬ ((1 : Int32) = (0 : Int32)))).1) kz))) ?_
        show Goes p e below (T148.setTop (mkF m 172 #[.val (.int p1), .val (.int p2), .val (.int p3), .val (.int (4 : Int32)), .val (.int n), .val (.int (1 : Int32)), .val (.int (0 : Int32)), .val (.int (0 : Int32)), .val (.int (1 : Int32)), .val (.ref (w 7)), .unset] [])) _
        refine Goes.by (fun _ kz => XS.iload X148.here hx rfl (hb hby at_172) rfl (XS.ifNo X148.here hx rfl (hb hby at_174) rfl ((if0 _ _).trans (feq (by decide : ¬ ((1 : Int32) = (0 : Int32)))).1) (XS.iconst X148.here hx rfl (hb hby at_177) kz))) ?_
        show Goes p e below (T148.setTop (mkF m 178 #[.val (.int p1), .val (.int p2), .val (.int p3), .val (.int (4 : Int32)), .val (.int n), .val (.int (1 : Int32)), .val (.int (0 : Int32)), .val (.int (0 : Int32)), .val (.int (1 : Int32)), .val (.ref (w 7)), .unset] [(.int (1 : Int32))])) _
        refine Goes.by (fun _ kz => XS.goto X148.here hx rfl (pc0 := 178) (pc' := 182) rfl (hb hby at_178) (by decide) (by decide) (XS.istore X148.here hx rfl (hb hby at_182) rfl (l' := #[.val (.int p1), .val (.int p2), .val (.int p3), .val (.int (4 : Int32)), .val (.int n), .val (.int (1 : Int32)), .val (.int (0 : Int32)), .val (.int (0 : Int32)), .val (.int (1 : Int32)), .val (.ref (w 7)), .val (.int (1 : Int32))]) rfl (XS.goto X148.here hx rfl (pc0 := 184) (pc' := 275) rfl (hb hby at_184) (by decide) (by decide) kz))) ?_
        show Goes p e below (T148.setTop (mkF m 275 #[.val (.int p1), .val (.int p2), .val (.int p3), .val (.int (4 : Int32)), .val (.int n), .val (.int (1 : Int32)), .val (.int (0 : Int32)), .val (.int (0 : Int32)), .val (.int (1 : Int32)), .val (.ref (w 7)), .val (.int (1 : Int32))] [])) _
        refine Goes.by (fun _ kz => XS.aload X148.here hx rfl (hb hby at_275) rfl rfl (XS.iload X148.here hx rfl (hb hby at_277) rfl (XS.iload X148.here hx rfl (hb hby at_279) rfl kz))) ?_
        obtain ⟨cq150, kq150, q150a, q150b, q150c⟩ := isOf hZ e148 P.2.2.2.2.2.2.2.2.2.2.2.2.2.2.2.1
        obtain ⟨_, _, ⟨T150, L150, k150, n150⟩, -, X150, ⟨Lc150, hQ150, l150, y150, z150⟩, st150⟩ := X148.virtualBack hx (y := (⟨"com/example/entail/entail/model/Scope", "reaches", "(IZ)Z"⟩ : MethodName)) (z := (⟨"com/example/entail/entail/model/Scope", "reaches", "(IZ)Z"⟩ : MethodName)) hown (mvT hZ (hw _ (List.mem_of_getElem? (i := 4) rfl))) (mvT hZ (hw _ (List.mem_of_getElem? (i := 5) rfl))) (notFace_of_selects (args := #[]) (mvT hZ (hw _ (List.mem_of_getElem? (i := 7) rfl)))) (mvT hZ (hw _ (List.mem_of_getElem? (i := 7) rfl))) (mvT hZ (hw _ (List.mem_of_getElem? (i := 6) rfl))) (by decide) (backOf (W := 0) (r1_49 l Z a0 hw [] h0 n0 Z0 n w hn0 hn1 hn3 P) hZ (hw _ (List.mem_of_getElem? (i := 8) rfl)) (hw _ (List.mem_of_getElem? (i := 2) rfl)) (by decide) (by decide)) q150a q150c (g := (mkF m 281 #[.val (.int p1), .val (.int p2), .val (.int p3), .val (.int (4 : Int32)), .val (.int n), .val (.int (1 : Int32)), .val (.int (0 : Int32)), .val (.int (0 : Int32)), .val (.int (1 : Int32)), .val (.ref (w 7)), .val (.int (1 : Int32))] [(.int (1 : Int32)), (.int n), (.ref (w 7))])) rfl (by rw [hml]; rfl) (Steps.refl _) (argsL := [(.int n), (.int (1 : Int32))]) (rest := []) (lenOf pd0 rfl) rfl (by show 2 * 0 + _ ≤ _; exact Nat.le_of_eq rfl) (hb hby at_281) (fun _ _ => ⟨rfl, e148, (by decide : 0 + 0 ≤ _), (by decide : 0 + 0 ≤ _)⟩)
        dsimp only [Pt.U, Pt.locs, Pt.cells, Pt.slots] at X150 l150 y150 z150 st150 hQ150
        subst l150 y150 z150
        obtain ⟨rfl, Nq150, e150⟩ := hQ150
        have N150 := Fr.app N0 Nq150
        refine Goes.tr st150 ?_
        refine Goes.by (fun _ kz => XS.iload X150.here hx rfl (hb hby at_284) rfl (XS.icmpNo X150.here hx rfl (hb hby at_286) rfl (teq (by decide : (1 : Int32) = (1 : Int32))).2 (XS.iconst X150.here hx rfl (hb hby at_289) kz))) ?_
        show Goes p e below (T150.setTop (mkF m 290 #[.val (.int p1), .val (.int p2), .val (.int p3), .val (.int (4 : Int32)), .val (.int n), .val (.int (1 : Int32)), .val (.int (0 : Int32)), .val (.int (0 : Int32)), .val (.int (1 : Int32)), .val (.ref (w 7)), .val (.int (1 : Int32))] [(.int (1 : Int32))])) _
        refine Goes.by (fun _ kz => XS.goto X150.here hx rfl (pc0 := 290) (pc' := 294) rfl (hb hby at_290) (by decide) (by decide) kz) ?_
        show Goes p e below (T150.setTop (mkF m 294 #[.val (.int p1), .val (.int p2), .val (.int p3), .val (.int (4 : Int32)), .val (.int n), .val (.int (1 : Int32)), .val (.int (0 : Int32)), .val (.int (0 : Int32)), .val (.int (1 : Int32)), .val (.ref (w 7)), .val (.int (1 : Int32))] [(.int (1 : Int32))])) _
        obtain ⟨fs, hr, hrun, hended, hW, hsame⟩ := X150.leave (v := some (.int (1 : Int32))) (fun h => by rw [Bd.returns] at h; cases h)
        exact ⟨_, _, retN X150 hx (t := .boolean) Bd.returns (by simp) (hb hby at_294) hr, hrun, hended, _, _, rfl, ⟨rfl, N150⟩, ⟨_, rfl⟩, hW, hsame.mono (by decide) (by decide)⟩
      · show Goes p e below (s₁.setTop (mkF m 65 #[.val (.int p1), .val (.int p2), .val (.int p3), .val (.int (5 : Int32)), .val (.int n), .val (.int (1 : Int32)), .val (.int (0 : Int32)), .val (.int (0 : Int32)), .val (.int (1 : Int32)), .unset, .unset] [])) _
        refine Goes.by (fun _ kz => XS.iloadN X0.here hx rfl (hb hby at_65) rfl (XS.ifYes X0.here hx rfl (pc0 := 66) (pc' := 80) rfl (hb hby at_66) rfl ((if0 _ _).trans (feq (by decide : ¬ ((5 : Int32) = (0 : Int32)))).2) (by decide) (by decide) (XS.iloadN X0.here hx rfl (hb hby at_80) rfl kz))) ?_
        show Goes p e below (s₁.setTop (mkF m 81 #[.val (.int p1), .val (.int p2), .val (.int p3), .val (.int (5 : Int32)), .val (.int n), .val (.int (1 : Int32)), .val (.int (0 : Int32)), .val (.int (0 : Int32)), .val (.int (1 : Int32)), .unset, .unset] [(.int (5 : Int32))])) _
        refine Goes.by (fun _ kz => XS.iconst X0.here hx rfl (hb hby at_81) (XS.icmpYes X0.here hx rfl (pc0 := 82) (pc' := 110) rfl (hb hby at_82) rfl (feq (by decide : ¬ ((5 : Int32) = (1 : Int32)))).2 (by decide) (by decide) (XS.iloadN X0.here hx rfl (hb hby at_110) rfl kz))) ?_
        show Goes p e below (s₁.setTop (mkF m 111 #[.val (.int p1), .val (.int p2), .val (.int p3), .val (.int (5 : Int32)), .val (.int n), .val (.int (1 : Int32)), .val (.int (0 : Int32)), .val (.int (0 : Int32)), .val (.int (1 : Int32)), .unset, .unset] [(.int (5 : Int32))])) _
        refine Goes.by (fun _ kz => XS.iconst X0.here hx rfl (hb hby at_111) (XS.icmpYes X0.here hx rfl (pc0 := 112) (pc' := 140) rfl (hb hby at_112) rfl (feq (by decide : ¬ ((5 : Int32) = (2 : Int32)))).2 (by decide) (by decide) (XS.iloadN X0.here hx rfl (hb hby at_140) rfl kz))) ?_
        show Goes p e below (s₁.setTop (mkF m 141 #[.val (.int p1), .val (.int p2), .val (.int p3), .val (.int (5 : Int32)), .val (.int n), .val (.int (1 : Int32)), .val (.int (0 : Int32)), .val (.int (0 : Int32)), .val (.int (1 : Int32)), .unset, .unset] [(.int (5 : Int32))])) _
        refine Goes.by (fun _ kz => XS.iconst X0.here hx rfl (hb hby at_141) (XS.icmpYes X0.here hx rfl (pc0 := 142) (pc' := 157) rfl (hb hby at_142) rfl (feq (by decide : ¬ ((5 : Int32) = (3 : Int32)))).2 (by decide) (by decide) (XS.iloadN X0.here hx rfl (hb hby at_157) rfl kz))) ?_
        show Goes p e below (s₁.setTop (mkF m 158 #[.val (.int p1), .val (.int p2), .val (.int p3), .val (.int (5 : Int32)), .val (.int n), .val (.int (1 : Int32)), .val (.int (0 : Int32)), .val (.int (0 : Int32)), .val (.int (1 : Int32)), .unset, .unset] [(.int (5 : Int32))])) _
        refine Goes.by (fun _ kz => XS.iconst X0.here hx rfl (hb hby at_158) (XS.icmpYes X0.here hx rfl (pc0 := 159) (pc' := 187) rfl (hb hby at_159) rfl (feq (by decide : ¬ ((5 : Int32) = (4 : Int32)))).2 (by decide) (by decide) (XS.iloadN X0.here hx rfl (hb hby at_187) rfl kz))) ?_
        show Goes p e below (s₁.setTop (mkF m 188 #[.val (.int p1), .val (.int p2), .val (.int p3), .val (.int (5 : Int32)), .val (.int n), .val (.int (1 : Int32)), .val (.int (0 : Int32)), .val (.int (0 : Int32)), .val (.int (1 : Int32)), .unset, .unset] [(.int (5 : Int32))])) _
        refine Goes.by (fun _ kz => XS.iconst X0.here hx rfl (hb hby at_188) (XS.icmpNo X0.here hx rfl (hb hby at_189) rfl (teq (by decide : (5 : Int32) = (5 : Int32))).2 kz)) ?_
        obtain ⟨T151, X151, e151, st151⟩ := getS2 X0 hx hZ hown (host := "") (Or.inl (hw _ (List.mem_of_getElem? (i := 31) rfl))) Via.refl e0 P.2.2.2.2.2.2.2.2.2.2.2.2.2.2.2.2.1 (g := (mkF m 192 #[.val (.int p1), .val (.int p2), .val (.int p3), .val (.int (5 : Int32)), .val (.int n), .val (.int (1 : Int32)), .val (.int (0 : Int32)), .val (.int (0 : Int32)), .val (.int (1 : Int32)), .unset, .unset] [])) rfl (hb hby at_192)
        refine Goes.by st151 ?_
        refine Goes.by (fun _ kz => XS.astore X151.here hx rfl (hb hby at_195) rfl rfl (l' := #[.val (.int p1), .val (.int p2), .val (.int p3), .val (.int (5 : Int32)), .val (.int n), .val (.int (1 : Int32)), .val (.int (0 : Int32)), .val (.int (0 : Int32)), .val (.int (1 : Int32)), .val (.ref (w 8)), .unset]) rfl (XS.iload X151.here hx rfl (hb hby at_197) rfl (XS.ifNo X151.here hx rfl (hb hby at_199) rfl ((if0 _ _).trans (feq (by decide : ¬ ((1 : Int32) = (0 : Int32)))).1) kz))) ?_
        show Goes p e below (T151.setTop (mkF m 202 #[.val (.int p1), .val (.int p2), .val (.int p3), .val (.int (5 : Int32)), .val (.int n), .val (.int (1 : Int32)), .val (.int (0 : Int32)), .val (.int (0 : Int32)), .val (.int (1 : Int32)), .val (.ref (w 8)), .unset] [])) _
        refine Goes.by (fun _ kz => XS.iload X151.here hx rfl (hb hby at_202) rfl (XS.ifYes X151.here hx rfl (pc0 := 204) (pc' := 211) rfl (hb hby at_204) rfl ((if0 _ _).trans (feq (by decide : ¬ ((1 : Int32) = (0 : Int32)))).2) (by decide) (by decide) (XS.iconst X151.here hx rfl (hb hby at_211) kz))) ?_
        show Goes p e below (T151.setTop (mkF m 212 #[.val (.int p1), .val (.int p2), .val (.int p3), .val (.int (5 : Int32)), .val (.int n), .val (.int (1 : Int32)), .val (.int (0 : Int32)), .val (.int (0 : Int32)), .val (.int (1 : Int32)), .val (.ref (w 8)), .unset] [(.int (0 : Int32))])) _
        refine Goes.by (fun _ kz => XS.istore X151.here hx rfl (hb hby at_212) rfl (l' := #[.val (.int p1), .val (.int p2), .val (.int p3), .val (.int (5 : Int32)), .val (.int n), .val (.int (1 : Int32)), .val (.int (0 : Int32)), .val (.int (0 : Int32)), .val (.int (1 : Int32)), .val (.ref (w 8)), .val (.int (0 : Int32))]) rfl (XS.goto X151.here hx rfl (pc0 := 214) (pc' := 275) rfl (hb hby at_214) (by decide) (by decide) (XS.aload X151.here hx rfl (hb hby at_275) rfl rfl kz))) ?_
        show Goes p e below (T151.setTop (mkF m 277 #[.val (.int p1), .val (.int p2), .val (.int p3), .val (.int (5 : Int32)), .val (.int n), .val (.int (1 : Int32)), .val (.int (0 : Int32)), .val (.int (0 : Int32)), .val (.int (1 : Int32)), .val (.ref (w 8)), .val (.int (0 : Int32))] [(.ref (w 8))])) _
        refine Goes.by (fun _ kz => XS.iload X151.here hx rfl (hb hby at_277) rfl (XS.iload X151.here hx rfl (hb hby at_279) rfl kz)) ?_
        obtain ⟨cq153, kq153, q153a, q153b, q153c⟩ := isOf hZ e151 P.2.2.2.2.2.2.2.2.2.2.2.2.2.2.2.2.2.1
        obtain ⟨_, _, ⟨T153, L153, k153, n153⟩, -, X153, ⟨Lc153, hQ153, l153, y153, z153⟩, st153⟩ := X151.virtualBack hx (y := (⟨"com/example/entail/entail/model/Scope", "reaches", "(IZ)Z"⟩ : MethodName)) (z := (⟨"com/example/entail/entail/model/Scope", "reaches", "(IZ)Z"⟩ : MethodName)) hown (mvT hZ (hw _ (List.mem_of_getElem? (i := 4) rfl))) (mvT hZ (hw _ (List.mem_of_getElem? (i := 5) rfl))) (notFace_of_selects (args := #[]) (mvT hZ (hw _ (List.mem_of_getElem? (i := 7) rfl)))) (mvT hZ (hw _ (List.mem_of_getElem? (i := 7) rfl))) (mvT hZ (hw _ (List.mem_of_getElem? (i := 6) rfl))) (by decide) (backOf (W := 0) (r1_50 l Z a0 hw [] h0 n0 Z0 n w hn0 hn1 hn3 P) hZ (hw _ (List.mem_of_getElem? (i := 8) rfl)) (hw _ (List.mem_of_getElem? (i := 2) rfl)) (by decide) (by decide)) q153a q153c (g := (mkF m 281 #[.val (.int p1), .val (.int p2), .val (.int p3), .val (.int (5 : Int32)), .val (.int n), .val (.int (1 : Int32)), .val (.int (0 : Int32)), .val (.int (0 : Int32)), .val (.int (1 : Int32)), .val (.ref (w 8)), .val (.int (0 : Int32))] [(.int (1 : Int32)), (.int n), (.ref (w 8))])) rfl (by rw [hml]; rfl) (Steps.refl _) (argsL := [(.int n), (.int (1 : Int32))]) (rest := []) (lenOf pd0 rfl) rfl (by show 2 * 0 + _ ≤ _; exact Nat.le_of_eq rfl) (hb hby at_281) (fun _ _ => ⟨rfl, e151, (by decide : 0 + 0 ≤ _), (by decide : 0 + 0 ≤ _)⟩)
        dsimp only [Pt.U, Pt.locs, Pt.cells, Pt.slots] at X153 l153 y153 z153 st153 hQ153
        subst l153 y153 z153
        obtain ⟨rfl, Nq153, e153⟩ := hQ153
        have N153 := Fr.app N0 Nq153
        refine Goes.tr st153 ?_
        refine Goes.by (fun _ kz => XS.iload X153.here hx rfl (hb hby at_284) rfl (XS.icmpNo X153.here hx rfl (hb hby at_286) rfl (teq (by decide : (0 : Int32) = (0 : Int32))).2 (XS.iconst X153.here hx rfl (hb hby at_289) kz))) ?_
        show Goes p e below (T153.setTop (mkF m 290 #[.val (.int p1), .val (.int p2), .val (.int p3), .val (.int (5 : Int32)), .val (.int n), .val (.int (1 : Int32)), .val (.int (0 : Int32)), .val (.int (0 : Int32)), .val (.int (1 : Int32)), .val (.ref (w 8)), .val (.int (0 : Int32))] [(.int (1 : Int32))])) _
        refine Goes.by (fun _ kz => XS.goto X153.here hx rfl (pc0 := 290) (pc' := 294) rfl (hb hby at_290) (by decide) (by decide) kz) ?_
        show Goes p e below (T153.setTop (mkF m 294 #[.val (.int p1), .val (.int p2), .val (.int p3), .val (.int (5 : Int32)), .val (.int n), .val (.int (1 : Int32)), .val (.int (0 : Int32)), .val (.int (0 : Int32)), .val (.int (1 : Int32)), .val (.ref (w 8)), .val (.int (0 : Int32))] [(.int (1 : Int32))])) _
        obtain ⟨fs, hr, hrun, hended, hW, hsame⟩ := X153.leave (v := some (.int (1 : Int32))) (fun h => by rw [Bd.returns] at h; cases h)
        exact ⟨_, _, retN X153 hx (t := .boolean) Bd.returns (by simp) (hb hby at_294) hr, hrun, hended, _, _, rfl, ⟨rfl, N153⟩, ⟨_, rfl⟩, hW, hsame.mono (by decide) (by decide)⟩
      · show Goes p e below (s₁.setTop (mkF m 65 #[.val (.int p1), .val (.int p2), .val (.int p3), .val (.int (6 : Int32)), .val (.int n), .val (.int (1 : Int32)), .val (.int (0 : Int32)), .val (.int (0 : Int32)), .val (.int (1 : Int32)), .unset, .unset] [])) _
        refine Goes.by (fun _ kz => XS.iloadN X0.here hx rfl (hb hby at_65) rfl (XS.ifYes X0.here hx rfl (pc0 := 66) (pc' := 80) rfl (hb hby at_66) rfl ((if0 _ _).trans (feq (by decide : ¬ ((6 : Int32) = (0 : Int32)))).2) (by decide) (by decide) (XS.iloadN X0.here hx rfl (hb hby at_80) rfl kz))) ?_
        show Goes p e below (s₁.setTop (mkF m 81 #[.val (.int p1), .val (.int p2), .val (.int p3), .val (.int (6 : Int32)), .val (.int n), .val (.int (1 : Int32)), .val (.int (0 : Int32)), .val (.int (0 : Int32)), .val (.int (1 : Int32)), .unset, .unset] [(.int (6 : Int32))])) _
        refine Goes.by (fun _ kz => XS.iconst X0.here hx rfl (hb hby at_81) (XS.icmpYes X0.here hx rfl (pc0 := 82) (pc' := 110) rfl (hb hby at_82) rfl (feq (by decide : ¬ ((6 : Int32) = (1 : Int32)))).2 (by decide) (by decide) (XS.iloadN X0.here hx rfl (hb hby at_110) rfl kz))) ?_
        show Goes p e below (s₁.setTop (mkF m 111 #[.val (.int p1), .val (.int p2), .val (.int p3), .val (.int (6 : Int32)), .val (.int n), .val (.int (1 : Int32)), .val (.int (0 : Int32)), .val (.int (0 : Int32)), .val (.int (1 : Int32)), .unset, .unset] [(.int (6 : Int32))])) _
        refine Goes.by (fun _ kz => XS.iconst X0.here hx rfl (hb hby at_111) (XS.icmpYes X0.here hx rfl (pc0 := 112) (pc' := 140) rfl (hb hby at_112) rfl (feq (by decide : ¬ ((6 : Int32) = (2 : Int32)))).2 (by decide) (by decide) (XS.iloadN X0.here hx rfl (hb hby at_140) rfl kz))) ?_
        show Goes p e below (s₁.setTop (mkF m 141 #[.val (.int p1), .val (.int p2), .val (.int p3), .val (.int (6 : Int32)), .val (.int n), .val (.int (1 : Int32)), .val (.int (0 : Int32)), .val (.int (0 : Int32)), .val (.int (1 : Int32)), .unset, .unset] [(.int (6 : Int32))])) _
        refine Goes.by (fun _ kz => XS.iconst X0.here hx rfl (hb hby at_141) (XS.icmpYes X0.here hx rfl (pc0 := 142) (pc' := 157) rfl (hb hby at_142) rfl (feq (by decide : ¬ ((6 : Int32) = (3 : Int32)))).2 (by decide) (by decide) (XS.iloadN X0.here hx rfl (hb hby at_157) rfl kz))) ?_
        show Goes p e below (s₁.setTop (mkF m 158 #[.val (.int p1), .val (.int p2), .val (.int p3), .val (.int (6 : Int32)), .val (.int n), .val (.int (1 : Int32)), .val (.int (0 : Int32)), .val (.int (0 : Int32)), .val (.int (1 : Int32)), .unset, .unset] [(.int (6 : Int32))])) _
        refine Goes.by (fun _ kz => XS.iconst X0.here hx rfl (hb hby at_158) (XS.icmpYes X0.here hx rfl (pc0 := 159) (pc' := 187) rfl (hb hby at_159) rfl (feq (by decide : ¬ ((6 : Int32) = (4 : Int32)))).2 (by decide) (by decide) (XS.iloadN X0.here hx rfl (hb hby at_187) rfl kz))) ?_
        show Goes p e below (s₁.setTop (mkF m 188 #[.val (.int p1), .val (.int p2), .val (.int p3), .val (.int (6 : Int32)), .val (.int n), .val (.int (1 : Int32)), .val (.int (0 : Int32)), .val (.int (0 : Int32)), .val (.int (1 : Int32)), .unset, .unset] [(.int (6 : Int32))])) _
        refine Goes.by (fun _ kz => XS.iconst X0.here hx rfl (hb hby at_188) (XS.icmpYes X0.here hx rfl (pc0 := 189) (pc' := 217) rfl (hb hby at_189) rfl (feq (by decide : ¬ ((6 : Int32) = (5 : Int32)))).2 (by decide) (by decide) (XS.iloadN X0.here hx rfl (hb hby at_217) rfl kz))) ?_
        show Goes p e below (s₁.setTop (mkF m 218 #[.val (.int p1), .val (.int p2), .val (.int p3), .val (.int (6 : Int32)), .val (.int n), .val (.int (1 : Int32)), .val (.int (0 : Int32)), .val (.int (0 : Int32)), .val (.int (1 : Int32)), .unset, .unset] [(.int (6 : Int32))])) _
        refine Goes.by (fun _ kz => XS.bipush X0.here hx rfl (hb hby at_218) (XS.icmpNo X0.here hx rfl (hb hby at_220) rfl (teq (by decide : (6 : Int32) = (6 : Int32))).2 kz)) ?_
        obtain ⟨T154, X154, e154, st154⟩ := getS2 X0 hx hZ hown (host := "") (Or.inl (hw _ (List.mem_of_getElem? (i := 21) rfl))) Via.refl e0 P.2.2.2.2.2.2.2.2.1 (g := (mkF m 223 #[.val (.int p1), .val (.int p2), .val (.int p3), .val (.int (6 : Int32)), .val (.int n), .val (.int (1 : Int32)), .val (.int (0 : Int32)), .val (.int (0 : Int32)), .val (.int (1 : Int32)), .unset, .unset] [])) rfl (hb hby at_223)
        refine Goes.by st154 ?_
        refine Goes.by (fun _ kz => XS.astore X154.here hx rfl (hb hby at_226) rfl rfl (l' := #[.val (.int p1), .val (.int p2), .val (.int p3), .val (.int (6 : Int32)), .val (.int n), .val (.int (1 : Int32)), .val (.int (0 : Int32)), .val (.int (0 : Int32)), .val (.int (1 : Int32)), .val (.ref (w 4)), .unset]) rfl (XS.iload X154.here hx rfl (hb hby at_228) rfl (XS.istore X154.here hx rfl (hb hby at_230) rfl (l' := #[.val (.int p1), .val (.int p2), .val (.int p3), .val (.int (6 : Int32)), .val (.int n), .val (.int (1 : Int32)), .val (.int (0 : Int32)), .val (.int (0 : Int32)), .val (.int (1 : Int32)), .val (.ref (w 4)), .val (.int (0 : Int32))]) rfl kz))) ?_
        show Goes p e below (T154.setTop (mkF m 232 #[.val (.int p1), .val (.int p2), .val (.int p3), .val (.int (6 : Int32)), .val (.int n), .val (.int (1 : Int32)), .val (.int (0 : Int32)), .val (.int (0 : Int32)), .val (.int (1 : Int32)), .val (.ref (w 4)), .val (.int (0 : Int32))] [])) _
        refine Goes.by (fun _ kz => XS.goto X154.here hx rfl (pc0 := 232) (pc' := 275) rfl (hb hby at_232) (by decide) (by decide) (XS.aload X154.here hx rfl (hb hby at_275) rfl rfl (XS.iload X154.here hx rfl (hb hby at_277) rfl kz))) ?_
        show Goes p e below (T154.setTop (mkF m 279 #[.val (.int p1), .val (.int p2), .val (.int p3), .val (.int (6 : Int32)), .val (.int n), .val (.int (1 : Int32)), .val (.int (0 : Int32)), .val (.int (0 : Int32)), .val (.int (1 : Int32)), .val (.ref (w 4)), .val (.int (0 : Int32))] [(.int n), (.ref (w 4))])) _
        refine Goes.by (fun _ kz => XS.iload X154.here hx rfl (hb hby at_279) rfl kz) ?_
        obtain ⟨cq156, kq156, q156a, q156b, q156c⟩ := isOf hZ e154 P.2.2.2.2.2.2.2.2.2.1
        obtain ⟨_, _, ⟨T156, L156, k156, n156⟩, -, X156, ⟨Lc156, hQ156, l156, y156, z156⟩, st156⟩ := X154.virtualBack hx (y := (⟨"com/example/entail/entail/model/Scope", "reaches", "(IZ)Z"⟩ : MethodName)) (z := (⟨"com/example/entail/entail/model/Scope", "reaches", "(IZ)Z"⟩ : MethodName)) hown (mvT hZ (hw _ (List.mem_of_getElem? (i := 4) rfl))) (mvT hZ (hw _ (List.mem_of_getElem? (i := 5) rfl))) (notFace_of_selects (args := #[]) (mvT hZ (hw _ (List.mem_of_getElem? (i := 7) rfl)))) (mvT hZ (hw _ (List.mem_of_getElem? (i := 7) rfl))) (mvT hZ (hw _ (List.mem_of_getElem? (i := 6) rfl))) (by decide) (backOf (W := 0) (r1_51 l Z a0 hw [] h0 n0 Z0 n w hn0 hn1 hn3 P) hZ (hw _ (List.mem_of_getElem? (i := 8) rfl)) (hw _ (List.mem_of_getElem? (i := 2) rfl)) (by decide) (by decide)) q156a q156c (g := (mkF m 281 #[.val (.int p1), .val (.int p2), .val (.int p3), .val (.int (6 : Int32)), .val (.int n), .val (.int (1 : Int32)), .val (.int (0 : Int32)), .val (.int (0 : Int32)), .val (.int (1 : Int32)), .val (.ref (w 4)), .val (.int (0 : Int32))] [(.int (1 : Int32)), (.int n), (.ref (w 4))])) rfl (by rw [hml]; rfl) (Steps.refl _) (argsL := [(.int n), (.int (1 : Int32))]) (rest := []) (lenOf pd0 rfl) rfl (by show 2 * 0 + _ ≤ _; exact Nat.le_of_eq rfl) (hb hby at_281) (fun _ _ => ⟨rfl, e154, (by decide : 0 + 0 ≤ _), (by decide : 0 + 0 ≤ _)⟩)
        dsimp only [Pt.U, Pt.locs, Pt.cells, Pt.slots] at X156 l156 y156 z156 st156 hQ156
        subst l156 y156 z156
        obtain ⟨rfl, Nq156, e156⟩ := hQ156
        have N156 := Fr.app N0 Nq156
        refine Goes.tr st156 ?_
        refine Goes.by (fun _ kz => XS.iload X156.here hx rfl (hb hby at_284) rfl (XS.icmpNo X156.here hx rfl (hb hby at_286) rfl (teq (by decide : (0 : Int32) = (0 : Int32))).2 (XS.iconst X156.here hx rfl (hb hby at_289) kz))) ?_
        show Goes p e below (T156.setTop (mkF m 290 #[.val (.int p1), .val (.int p2), .val (.int p3), .val (.int (6 : Int32)), .val (.int n), .val (.int (1 : Int32)), .val (.int (0 : Int32)), .val (.int (0 : Int32)), .val (.int (1 : Int32)), .val (.ref (w 4)), .val (.int (0 : Int32))] [(.int (1 : Int32))])) _
        refine Goes.by (fun _ kz => XS.goto X156.here hx rfl (pc0 := 290) (pc' := 294) rfl (hb hby at_290) (by decide) (by decide) kz) ?_
        show Goes p e below (T156.setTop (mkF m 294 #[.val (.int p1), .val (.int p2), .val (.int p3), .val (.int (6 : Int32)), .val (.int n), .val (.int (1 : Int32)), .val (.int (0 : Int32)), .val (.int (0 : Int32)), .val (.int (1 : Int32)), .val (.ref (w 4)), .val (.int (0 : Int32))] [(.int (1 : Int32))])) _
        obtain ⟨fs, hr, hrun, hended, hW, hsame⟩ := X156.leave (v := some (.int (1 : Int32))) (fun h => by rw [Bd.returns] at h; cases h)
        exact ⟨_, _, retN X156 hx (t := .boolean) Bd.returns (by simp) (hb hby at_294) hr, hrun, hended, _, _, rfl, ⟨rfl, N156⟩, ⟨_, rfl⟩, hW, hsame.mono (by decide) (by decide)⟩
      · show Goes p e below (s₁.setTop (mkF m 65 #[.val (.int p1), .val (.int p2), .val (.int p3), .val (.int (7 : Int32)), .val (.int n), .val (.int (1 : Int32)), .val (.int (0 : Int32)), .val (.int (0 : Int32)), .val (.int (1 : Int32)), .unset, .unset] [])) _
        refine Goes.by (fun _ kz => XS.iloadN X0.here hx rfl (hb hby at_65) rfl (XS.ifYes X0.here hx rfl (pc0 := 66) (pc' := 80) rfl (hb hby at_66) rfl ((if0 _ _).trans (feq (by decide : ¬ ((7 : Int32) = (0 : Int32)))).2) (by decide) (by decide) (XS.iloadN X0.here hx rfl (hb hby at_80) rfl kz))) ?_
        show Goes p e below (s₁.setTop (mkF m 81 #[.val (.int p1), .val (.int p2), .val (.int p3), .val (.int (7 : Int32)), .val (.int n), .val (.int (1 : Int32)), .val (.int (0 : Int32)), .val (.int (0 : Int32)), .val (.int (1 : Int32)), .unset, .unset] [(.int (7 : Int32))])) _
        refine Goes.by (fun _ kz => XS.iconst X0.here hx rfl (hb hby at_81) (XS.icmpYes X0.here hx rfl (pc0 := 82) (pc' := 110) rfl (hb hby at_82) rfl (feq (by decide : ¬ ((7 : Int32) = (1 : Int32)))).2 (by decide) (by decide) (XS.iloadN X0.here hx rfl (hb hby at_110) rfl kz))) ?_
        show Goes p e below (s₁.setTop (mkF m 111 #[.val (.int p1), .val (.int p2), .val (.int p3), .val (.int (7 : Int32)), .val (.int n), .val (.int (1 : Int32)), .val (.int (0 : Int32)), .val (.int (0 : Int32)), .val (.int (1 : Int32)), .unset, .unset] [(.int (7 : Int32))])) _
        refine Goes.by (fun _ kz => XS.iconst X0.here hx rfl (hb hby at_111) (XS.icmpYes X0.here hx rfl (pc0 := 112) (pc' := 140) rfl (hb hby at_112) rfl (feq (by decide : ¬ ((7 : Int32) = (2 : Int32)))).2 (by decide) (by decide) (XS.iloadN X0.here hx rfl (hb hby at_140) rfl kz))) ?_
        show Goes p e below (s₁.setTop (mkF m 141 #[.val (.int p1), .val (.int p2), .val (.int p3), .val (.int (7 : Int32)), .val (.int n), .val (.int (1 : Int32)), .val (.int (0 : Int32)), .val (.int (0 : Int32)), .val (.int (1 : Int32)), .unset, .unset] [(.int (7 : Int32))])) _
        refine Goes.by (fun _ kz => XS.iconst X0.here hx rfl (hb hby at_141) (XS.icmpYes X0.here hx rfl (pc0 := 142) (pc' := 157) rfl (hb hby at_142) rfl (feq (by decide : ¬ ((7 : Int32) = (3 : Int32)))).2 (by decide) (by decide) (XS.iloadN X0.here hx rfl (hb hby at_157) rfl kz))) ?_
        show Goes p e below (s₁.setTop (mkF m 158 #[.val (.int p1), .val (.int p2), .val (.int p3), .val (.int (7 : Int32)), .val (.int n), .val (.int (1 : Int32)), .val (.int (0 : Int32)), .val (.int (0 : Int32)), .val (.int (1 : Int32)), .unset, .unset] [(.int (7 : Int32))])) _
        refine Goes.by (fun _ kz => XS.iconst X0.here hx rfl (hb hby at_158) (XS.icmpYes X0.here hx rfl (pc0 := 159) (pc' := 187) rfl (hb hby at_159) rfl (feq (by decide : ¬ ((7 : Int32) = (4 : Int32)))).2 (by decide) (by decide) (XS.iloadN X0.here hx rfl (hb hby at_187) rfl kz))) ?_
        show Goes p e below (s₁.setTop (mkF m 188 #[.val (.int p1), .val (.int p2), .val (.int p3), .val (.int (7 : Int32)), .val (.int n), .val (.int (1 : Int32)), .val (.int (0 : Int32)), .val (.int (0 : Int32)), .val (.int (1 : Int32)), .unset, .unset] [(.int (7 : Int32))])) _
        refine Goes.by (fun _ kz => XS.iconst X0.here hx rfl (hb hby at_188) (XS.icmpYes X0.here hx rfl (pc0 := 189) (pc' := 217) rfl (hb hby at_189) rfl (feq (by decide : ¬ ((7 : Int32) = (5 : Int32)))).2 (by decide) (by decide) (XS.iloadN X0.here hx rfl (hb hby at_217) rfl kz))) ?_
        show Goes p e below (s₁.setTop (mkF m 218 #[.val (.int p1), .val (.int p2), .val (.int p3), .val (.int (7 : Int32)), .val (.int n), .val (.int (1 : Int32)), .val (.int (0 : Int32)), .val (.int (0 : Int32)), .val (.int (1 : Int32)), .unset, .unset] [(.int (7 : Int32))])) _
        refine Goes.by (fun _ kz => XS.bipush X0.here hx rfl (hb hby at_218) (XS.icmpYes X0.here hx rfl (pc0 := 220) (pc' := 235) rfl (hb hby at_220) rfl (feq (by decide : ¬ ((7 : Int32) = (6 : Int32)))).2 (by decide) (by decide) (XS.iloadN X0.here hx rfl (hb hby at_235) rfl kz))) ?_
        show Goes p e below (s₁.setTop (mkF m 236 #[.val (.int p1), .val (.int p2), .val (.int p3), .val (.int (7 : Int32)), .val (.int n), .val (.int (1 : Int32)), .val (.int (0 : Int32)), .val (.int (0 : Int32)), .val (.int (1 : Int32)), .unset, .unset] [(.int (7 : Int32))])) _
        refine Goes.by (fun _ kz => XS.bipush X0.here hx rfl (hb hby at_236) (XS.icmpNo X0.here hx rfl (hb hby at_238) rfl (teq (by decide : (7 : Int32) = (7 : Int32))).2 kz)) ?_
        obtain ⟨T157, X157, e157, st157⟩ := getS2 X0 hx hZ hown (host := "") (Or.inl (hw _ (List.mem_of_getElem? (i := 23) rfl))) Via.refl e0 P.2.2.2.2.2.2.2.2.2.2.1 (g := (mkF m 241 #[.val (.int p1), .val (.int p2), .val (.int p3), .val (.int (7 : Int32)), .val (.int n), .val (.int (1 : Int32)), .val (.int (0 : Int32)), .val (.int (0 : Int32)), .val (.int (1 : Int32)), .unset, .unset] [])) rfl (hb hby at_241)
        refine Goes.by st157 ?_
        refine Goes.by (fun _ kz => XS.astore X157.here hx rfl (hb hby at_244) rfl rfl (l' := #[.val (.int p1), .val (.int p2), .val (.int p3), .val (.int (7 : Int32)), .val (.int n), .val (.int (1 : Int32)), .val (.int (0 : Int32)), .val (.int (0 : Int32)), .val (.int (1 : Int32)), .val (.ref (w 5)), .unset]) rfl (XS.iload X157.here hx rfl (hb hby at_246) rfl (XS.ifYes X157.here hx rfl (pc0 := 248) (pc' := 260) rfl (hb hby at_248) rfl ((if0 _ _).trans (teq (by decide : (0 : Int32) = (0 : Int32))).1) (by decide) (by decide) kz))) ?_
        show Goes p e below (T157.setTop (mkF m 260 #[.val (.int p1), .val (.int p2), .val (.int p3), .val (.int (7 : Int32)), .val (.int n), .val (.int (1 : Int32)), .val (.int (0 : Int32)), .val (.int (0 : Int32)), .val (.int (1 : Int32)), .val (.ref (w 5)), .unset] [])) _
        refine Goes.by (fun _ kz => XS.iconst X157.here hx rfl (hb hby at_260) (XS.istore X157.here hx rfl (hb hby at_261) rfl (l' := #[.val (.int p1), .val (.int p2), .val (.int p3), .val (.int (7 : Int32)), .val (.int n), .val (.int (1 : Int32)), .val (.int (0 : Int32)), .val (.int (0 : Int32)), .val (.int (1 : Int32)), .val (.ref (w 5)), .val (.int (0 : Int32))]) rfl (XS.goto X157.here hx rfl (pc0 := 263) (pc' := 275) rfl (hb hby at_263) (by decide) (by decide) kz))) ?_
        show Goes p e below (T157.setTop (mkF m 275 #[.val (.int p1), .val (.int p2), .val (.int p3), .val (.int (7 : Int32)), .val (.int n), .val (.int (1 : Int32)), .val (.int (0 : Int32)), .val (.int (0 : Int32)), .val (.int (1 : Int32)), .val (.ref (w 5)), .val (.int (0 : Int32))] [])) _
        refine Goes.by (fun _ kz => XS.aload X157.here hx rfl (hb hby at_275) rfl rfl (XS.iload X157.here hx rfl (hb hby at_277) rfl (XS.iload X157.here hx rfl (hb hby at_279) rfl kz))) ?_
        obtain ⟨cq159, kq159, q159a, q159b, q159c⟩ := isOf hZ e157 P.2.2.2.2.2.2.2.2.2.2.2.1
        obtain ⟨_, _, ⟨T159, L159, k159, n159⟩, -, X159, ⟨Lc159, hQ159, l159, y159, z159⟩, st159⟩ := X157.virtualBack hx (y := (⟨"com/example/entail/entail/model/Scope", "reaches", "(IZ)Z"⟩ : MethodName)) (z := (⟨"com/example/entail/entail/model/Scope", "reaches", "(IZ)Z"⟩ : MethodName)) hown (mvT hZ (hw _ (List.mem_of_getElem? (i := 4) rfl))) (mvT hZ (hw _ (List.mem_of_getElem? (i := 5) rfl))) (notFace_of_selects (args := #[]) (mvT hZ (hw _ (List.mem_of_getElem? (i := 7) rfl)))) (mvT hZ (hw _ (List.mem_of_getElem? (i := 7) rfl))) (mvT hZ (hw _ (List.mem_of_getElem? (i := 6) rfl))) (by decide) (backOf (W := 0) (r1_52 l Z a0 hw [] h0 n0 Z0 n w hn0 hn1 hn3 P) hZ (hw _ (List.mem_of_getElem? (i := 8) rfl)) (hw _ (List.mem_of_getElem? (i := 2) rfl)) (by decide) (by decide)) q159a q159c (g := (mkF m 281 #[.val (.int p1), .val (.int p2), .val (.int p3), .val (.int (7 : Int32)), .val (.int n), .val (.int (1 : Int32)), .val (.int (0 : Int32)), .val (.int (0 : Int32)), .val (.int (1 : Int32)), .val (.ref (w 5)), .val (.int (0 : Int32))] [(.int (1 : Int32)), (.int n), (.ref (w 5))])) rfl (by rw [hml]; rfl) (Steps.refl _) (argsL := [(.int n), (.int (1 : Int32))]) (rest := []) (lenOf pd0 rfl) rfl (by show 2 * 0 + _ ≤ _; exact Nat.le_of_eq rfl) (hb hby at_281) (fun _ _ => ⟨rfl, e157, (by decide : 0 + 0 ≤ _), (by decide : 0 + 0 ≤ _)⟩)
        dsimp only [Pt.U, Pt.locs, Pt.cells, Pt.slots] at X159 l159 y159 z159 st159 hQ159
        subst l159 y159 z159
        obtain ⟨rfl, Nq159, e159⟩ := hQ159
        have N159 := Fr.app N0 Nq159
        refine Goes.tr st159 ?_
        refine Goes.by (fun _ kz => XS.iload X159.here hx rfl (hb hby at_284) rfl (XS.icmpNo X159.here hx rfl (hb hby at_286) rfl (teq (by decide : (0 : Int32) = (0 : Int32))).2 (XS.iconst X159.here hx rfl (hb hby at_289) kz))) ?_
        show Goes p e below (T159.setTop (mkF m 290 #[.val (.int p1), .val (.int p2), .val (.int p3), .val (.int (7 : Int32)), .val (.int n), .val (.int (1 : Int32)), .val (.int (0 : Int32)), .val (.int (0 : Int32)), .val (.int (1 : Int32)), .val (.ref (w 5)), .val (.int (0 : Int32))] [(.int (1 : Int32))])) _
        refine Goes.by (fun _ kz => XS.goto X159.here hx rfl (pc0 := 290) (pc' := 294) rfl (hb hby at_290) (by decide) (by decide) kz) ?_
        show Goes p e below (T159.setTop (mkF m 294 #[.val (.int p1), .val (.int p2), .val (.int p3), .val (.int (7 : Int32)), .val (.int n), .val (.int (1 : Int32)), .val (.int (0 : Int32)), .val (.int (0 : Int32)), .val (.int (1 : Int32)), .val (.ref (w 5)), .val (.int (0 : Int32))] [(.int (1 : Int32))])) _
        obtain ⟨fs, hr, hrun, hended, hW, hsame⟩ := X159.leave (v := some (.int (1 : Int32))) (fun h => by rw [Bd.returns] at h; cases h)
        exact ⟨_, _, retN X159 hx (t := .boolean) Bd.returns (by simp) (hb hby at_294) hr, hrun, hended, _, _, rfl, ⟨rfl, N159⟩, ⟨_, rfl⟩, hW, hsame.mono (by decide) (by decide)⟩
      · show Goes p e below (s₁.setTop (mkF m 65 #[.val (.int p1), .val (.int p2), .val (.int p3), .val (.int (8 : Int32)), .val (.int n), .val (.int (1 : Int32)), .val (.int (0 : Int32)), .val (.int (0 : Int32)), .val (.int (1 : Int32)), .unset, .unset] [])) _
        refine Goes.by (fun _ kz => XS.iloadN X0.here hx rfl (hb hby at_65) rfl (XS.ifYes X0.here hx rfl (pc0 := 66) (pc' := 80) rfl (hb hby at_66) rfl ((if0 _ _).trans (feq (by decide : ¬ ((8 : Int32) = (0 : Int32)))).2) (by decide) (by decide) (XS.iloadN X0.here hx rfl (hb hby at_80) rfl kz))) ?_
        show Goes p e below (s₁.setTop (mkF m 81 #[.val (.int p1), .val (.int p2), .val (.int p3), .val (.int (8 : Int32)), .val (.int n), .val (.int (1 : Int32)), .val (.int (0 : Int32)), .val (.int (0 : Int32)), .val (.int (1 : Int32)), .unset, .unset] [(.int (8 : Int32))])) _
        refine Goes.by (fun _ kz => XS.iconst X0.here hx rfl (hb hby at_81) (XS.icmpYes X0.here hx rfl (pc0 := 82) (pc' := 110) rfl (hb hby at_82) rfl (feq (by decide : ¬ ((8 : Int32) = (1 : Int32)))).2 (by decide) (by decide) (XS.iloadN X0.here hx rfl (hb hby at_110) rfl kz))) ?_
        show Goes p e below (s₁.setTop (mkF m 111 #[.val (.int p1), .val (.int p2), .val (.int p3), .val (.int (8 : Int32)), .val (.int n), .val (.int (1 : Int32)), .val (.int (0 : Int32)), .val (.int (0 : Int32)), .val (.int (1 : Int32)), .unset, .unset] [(.int (8 : Int32))])) _
        refine Goes.by (fun _ kz => XS.iconst X0.here hx rfl (hb hby at_111) (XS.icmpYes X0.here hx rfl (pc0 := 112) (pc' := 140) rfl (hb hby at_112) rfl (feq (by decide : ¬ ((8 : Int32) = (2 : Int32)))).2 (by decide) (by decide) (XS.iloadN X0.here hx rfl (hb hby at_140) rfl kz))) ?_
        show Goes p e below (s₁.setTop (mkF m 141 #[.val (.int p1), .val (.int p2), .val (.int p3), .val (.int (8 : Int32)), .val (.int n), .val (.int (1 : Int32)), .val (.int (0 : Int32)), .val (.int (0 : Int32)), .val (.int (1 : Int32)), .unset, .unset] [(.int (8 : Int32))])) _
        refine Goes.by (fun _ kz => XS.iconst X0.here hx rfl (hb hby at_141) (XS.icmpYes X0.here hx rfl (pc0 := 142) (pc' := 157) rfl (hb hby at_142) rfl (feq (by decide : ¬ ((8 : Int32) = (3 : Int32)))).2 (by decide) (by decide) (XS.iloadN X0.here hx rfl (hb hby at_157) rfl kz))) ?_
        show Goes p e below (s₁.setTop (mkF m 158 #[.val (.int p1), .val (.int p2), .val (.int p3), .val (.int (8 : Int32)), .val (.int n), .val (.int (1 : Int32)), .val (.int (0 : Int32)), .val (.int (0 : Int32)), .val (.int (1 : Int32)), .unset, .unset] [(.int (8 : Int32))])) _
        refine Goes.by (fun _ kz => XS.iconst X0.here hx rfl (hb hby at_158) (XS.icmpYes X0.here hx rfl (pc0 := 159) (pc' := 187) rfl (hb hby at_159) rfl (feq (by decide : ¬ ((8 : Int32) = (4 : Int32)))).2 (by decide) (by decide) (XS.iloadN X0.here hx rfl (hb hby at_187) rfl kz))) ?_
        show Goes p e below (s₁.setTop (mkF m 188 #[.val (.int p1), .val (.int p2), .val (.int p3), .val (.int (8 : Int32)), .val (.int n), .val (.int (1 : Int32)), .val (.int (0 : Int32)), .val (.int (0 : Int32)), .val (.int (1 : Int32)), .unset, .unset] [(.int (8 : Int32))])) _
        refine Goes.by (fun _ kz => XS.iconst X0.here hx rfl (hb hby at_188) (XS.icmpYes X0.here hx rfl (pc0 := 189) (pc' := 217) rfl (hb hby at_189) rfl (feq (by decide : ¬ ((8 : Int32) = (5 : Int32)))).2 (by decide) (by decide) (XS.iloadN X0.here hx rfl (hb hby at_217) rfl kz))) ?_
        show Goes p e below (s₁.setTop (mkF m 218 #[.val (.int p1), .val (.int p2), .val (.int p3), .val (.int (8 : Int32)), .val (.int n), .val (.int (1 : Int32)), .val (.int (0 : Int32)), .val (.int (0 : Int32)), .val (.int (1 : Int32)), .unset, .unset] [(.int (8 : Int32))])) _
        refine Goes.by (fun _ kz => XS.bipush X0.here hx rfl (hb hby at_218) (XS.icmpYes X0.here hx rfl (pc0 := 220) (pc' := 235) rfl (hb hby at_220) rfl (feq (by decide : ¬ ((8 : Int32) = (6 : Int32)))).2 (by decide) (by decide) (XS.iloadN X0.here hx rfl (hb hby at_235) rfl kz))) ?_
        show Goes p e below (s₁.setTop (mkF m 236 #[.val (.int p1), .val (.int p2), .val (.int p3), .val (.int (8 : Int32)), .val (.int n), .val (.int (1 : Int32)), .val (.int (0 : Int32)), .val (.int (0 : Int32)), .val (.int (1 : Int32)), .unset, .unset] [(.int (8 : Int32))])) _
        refine Goes.by (fun _ kz => XS.bipush X0.here hx rfl (hb hby at_236) (XS.icmpYes X0.here hx rfl (pc0 := 238) (pc' := 266) rfl (hb hby at_238) rfl (feq (by decide : ¬ ((8 : Int32) = (7 : Int32)))).2 (by decide) (by decide) kz)) ?_
        obtain ⟨T160, X160, e160, st160⟩ := getS2 X0 hx hZ hown (host := "") (Or.inl (hw _ (List.mem_of_getElem? (i := 17) rfl))) Via.refl e0 P.2.2.2.2.2.2.1 (g := (mkF m 266 #[.val (.int p1), .val (.int p2), .val (.int p3), .val (.int (8 : Int32)), .val (.int n), .val (.int (1 : Int32)), .val (.int (0 : Int32)), .val (.int (0 : Int32)), .val (.int (1 : Int32)), .unset, .unset] [])) rfl (hb hby at_266)
        refine Goes.by st160 ?_
        refine Goes.by (fun _ kz => XS.astore X160.here hx rfl (hb hby at_269) rfl rfl (l' := #[.val (.int p1), .val (.int p2), .val (.int p3), .val (.int (8 : Int32)), .val (.int n), .val (.int (1 : Int32)), .val (.int (0 : Int32)), .val (.int (0 : Int32)), .val (.int (1 : Int32)), .val (.ref (w 3)), .unset]) rfl (XS.iload X160.here hx rfl (hb hby at_271) rfl (XS.istore X160.here hx rfl (hb hby at_273) rfl (l' := #[.val (.int p1), .val (.int p2), .val (.int p3), .val (.int (8 : Int32)), .val (.int n), .val (.int (1 : Int32)), .val (.int (0 : Int32)), .val (.int (0 : Int32)), .val (.int (1 : Int32)), .val (.ref (w 3)), .val (.int (0 : Int32))]) rfl kz))) ?_
        show Goes p e below (T160.setTop (mkF m 275 #[.val (.int p1), .val (.int p2), .val (.int p3), .val (.int (8 : Int32)), .val (.int n), .val (.int (1 : Int32)), .val (.int (0 : Int32)), .val (.int (0 : Int32)), .val (.int (1 : Int32)), .val (.ref (w 3)), .val (.int (0 : Int32))] [])) _
        refine Goes.by (fun _ kz => XS.aload X160.here hx rfl (hb hby at_275) rfl rfl (XS.iload X160.here hx rfl (hb hby at_277) rfl (XS.iload X160.here hx rfl (hb hby at_279) rfl kz))) ?_
        obtain ⟨cq162, kq162, q162a, q162b, q162c⟩ := isOf hZ e160 P.2.2.2.2.2.2.2.1
        obtain ⟨_, _, ⟨T162, L162, k162, n162⟩, -, X162, ⟨Lc162, hQ162, l162, y162, z162⟩, st162⟩ := X160.virtualBack hx (y := (⟨"com/example/entail/entail/model/Scope", "reaches", "(IZ)Z"⟩ : MethodName)) (z := (⟨"com/example/entail/entail/model/Scope", "reaches", "(IZ)Z"⟩ : MethodName)) hown (mvT hZ (hw _ (List.mem_of_getElem? (i := 4) rfl))) (mvT hZ (hw _ (List.mem_of_getElem? (i := 5) rfl))) (notFace_of_selects (args := #[]) (mvT hZ (hw _ (List.mem_of_getElem? (i := 7) rfl)))) (mvT hZ (hw _ (List.mem_of_getElem? (i := 7) rfl))) (mvT hZ (hw _ (List.mem_of_getElem? (i := 6) rfl))) (by decide) (backOf (W := 0) (r1_53 l Z a0 hw [] h0 n0 Z0 n w hn0 hn1 hn3 P) hZ (hw _ (List.mem_of_getElem? (i := 8) rfl)) (hw _ (List.mem_of_getElem? (i := 2) rfl)) (by decide) (by decide)) q162a q162c (g := (mkF m 281 #[.val (.int p1), .val (.int p2), .val (.int p3), .val (.int (8 : Int32)), .val (.int n), .val (.int (1 : Int32)), .val (.int (0 : Int32)), .val (.int (0 : Int32)), .val (.int (1 : Int32)), .val (.ref (w 3)), .val (.int (0 : Int32))] [(.int (1 : Int32)), (.int n), (.ref (w 3))])) rfl (by rw [hml]; rfl) (Steps.refl _) (argsL := [(.int n), (.int (1 : Int32))]) (rest := []) (lenOf pd0 rfl) rfl (by show 2 * 0 + _ ≤ _; exact Nat.le_of_eq rfl) (hb hby at_281) (fun _ _ => ⟨rfl, e160, (by decide : 0 + 0 ≤ _), (by decide : 0 + 0 ≤ _)⟩)
        dsimp only [Pt.U, Pt.locs, Pt.cells, Pt.slots] at X162 l162 y162 z162 st162 hQ162
        subst l162 y162 z162
        obtain ⟨rfl, Nq162, e162⟩ := hQ162
        have N162 := Fr.app N0 Nq162
        refine Goes.tr st162 ?_
        refine Goes.by (fun _ kz => XS.iload X162.here hx rfl (hb hby at_284) rfl (XS.icmpNo X162.here hx rfl (hb hby at_286) rfl (teq (by decide : (0 : Int32) = (0 : Int32))).2 (XS.iconst X162.here hx rfl (hb hby at_289) kz))) ?_
        show Goes p e below (T162.setTop (mkF m 290 #[.val (.int p1), .val (.int p2), .val (.int p3), .val (.int (8 : Int32)), .val (.int n), .val (.int (1 : Int32)), .val (.int (0 : Int32)), .val (.int (0 : Int32)), .val (.int (1 : Int32)), .val (.ref (w 3)), .val (.int (0 : Int32))] [(.int (1 : Int32))])) _
        refine Goes.by (fun _ kz => XS.goto X162.here hx rfl (pc0 := 290) (pc' := 294) rfl (hb hby at_290) (by decide) (by decide) kz) ?_
        show Goes p e below (T162.setTop (mkF m 294 #[.val (.int p1), .val (.int p2), .val (.int p3), .val (.int (8 : Int32)), .val (.int n), .val (.int (1 : Int32)), .val (.int (0 : Int32)), .val (.int (0 : Int32)), .val (.int (1 : Int32)), .val (.ref (w 3)), .val (.int (0 : Int32))] [(.int (1 : Int32))])) _
        obtain ⟨fs, hr, hrun, hended, hW, hsame⟩ := X162.leave (v := some (.int (1 : Int32))) (fun h => by rw [Bd.returns] at h; cases h)
        exact ⟨_, _, retN X162 hx (t := .boolean) Bd.returns (by simp) (hb hby at_294) hr, hrun, hended, _, _, rfl, ⟨rfl, N162⟩, ⟨_, rfl⟩, hW, hsame.mono (by decide) (by decide)⟩
set_option maxRecDepth 65536 in
set_option maxHeartbeats 40000000 in
theorem comes_1 {Post : Tables → Env → Array Value → State → Outcome → State → Prop} (hpost : ∀ tb e args s v u, (limb_1_1.after args s (.returned v) u = true ∧ limb_1_2.after args s (.returned v) u = true ∧ True) → FrameEnd s (.returned v) u (Jvm.fieldLocs frame_1_writes args s ++ Jvm.arrayLocs frame_1_arrays args s ++ Jvm.staticLocs frame_1_statics s) 0 0 → Post tb e args s (.returned v) u) :
    ArmFor flags0 classFile x code maxLocals ret World_1 tables_1 room_1 Calls_1 rest_1 Pre_1 Post := by
  intro l hfl _ _ p e ha hc hk s m args below hf hA hF happ hP
  obtain ⟨hcalls, hrest, hpre⟩ := hP
  obtain ⟨-, -, -, hnamed, -, -, -, hat⟩ := (Spec.applies_iff hf).mp happ
  obtain ⟨hg, hn⟩ := and_e (Cond.before_iff.mp (show (Jvm.Cond.and given_1 narrow_1).before args s = true from hpre))
  obtain ⟨a1, b1⟩ := and_e hg
  obtain ⟨a2, b2⟩ := and_e b1
  obtain ⟨a3, b3⟩ := and_e b2
  obtain ⟨w0, w1, w2, rfl⟩ : ∃ w0 w1 w2 : Value, args = #[w0, w1, w2] := by
    have hs : args.size = 3 := by simpa [Cond.value, given_1] using a1
    obtain ⟨L⟩ := args
    match L, hs with
    | [w0, w1, w2], _ => exact ⟨w0, w1, w2, rfl⟩
  have hw := fun d (hd : d ∈ tables_1) => atoms_spec (ws := Jvm.Cond.code x code maxLocals ret :: tables_1) hat d (List.mem_cons_of_mem _ hd)
  obtain ⟨i0, ei0⟩ := is_v a2
  obtain rfl : w0 = (.int i0) := Option.some.inj ei0
  obtain ⟨i1, ei1⟩ := is_v a3
  obtain rfl : w1 = (.int i1) := Option.some.inj ei1
  obtain ⟨i2, ei2⟩ := is_v b3
  obtain rfl : w2 = (.int i2) := Option.some.inj ei2
  obtain ⟨q0, t0⟩ := and_e hn
  obtain ⟨q1, t1⟩ := and_e t0
  obtain ⟨q2, t2⟩ := and_e t1
  obtain ⟨q3, t3⟩ := and_e t2
  obtain ⟨q4, t4⟩ := and_e t3
  obtain ⟨q5, t5⟩ := and_e t4
  obtain ⟨q6, t6⟩ := and_e t5
  obtain ⟨q7, t7⟩ := and_e t6
  obtain ⟨q8, t8⟩ := and_e t7
  obtain ⟨q9, t9⟩ := and_e t8
  obtain ⟨q10, t10⟩ := and_e t9
  obtain ⟨q11, t11⟩ := and_e t10
  obtain ⟨q12, t12⟩ := and_e t11
  obtain ⟨q13, t13⟩ := and_e t12
  obtain ⟨q14, t14⟩ := and_e t13
  obtain ⟨q15, t15⟩ := and_e t14
  obtain ⟨q16, t16⟩ := and_e t15
  obtain ⟨q17, t17⟩ := and_e t16
  obtain ⟨q18, t18⟩ := and_e t17
  obtain ⟨q19, t19⟩ := and_e t18
  obtain ⟨q20, t20⟩ := and_e t19
  obtain ⟨q21, t21⟩ := and_e t20
  obtain ⟨q22, t22⟩ := and_e t21
  obtain ⟨q23, t23⟩ := and_e t22
  obtain ⟨q24, t24⟩ := and_e t23
  obtain ⟨q25, t25⟩ := and_e t24
  obtain ⟨q26, t26⟩ := and_e t25
  obtain ⟨q27, t27⟩ := and_e t26
  obtain ⟨q28, t28⟩ := and_e t27
  obtain ⟨q29, t29⟩ := and_e t28
  obtain ⟨q30, t30⟩ := and_e t29
  obtain ⟨q31, t31⟩ := and_e t30
  obtain ⟨q32, t32⟩ := and_e t31
  obtain ⟨q33, t33⟩ := and_e t32
  obtain ⟨q34, t34⟩ := and_e t33
  obtain ⟨q35, t35⟩ := and_e t34
  obtain ⟨q36, t36⟩ := and_e t35
  obtain ⟨q37, t37⟩ := and_e t36
  obtain ⟨q38, t38⟩ := and_e t37
  obtain ⟨q39, t39⟩ := and_e t38
  obtain ⟨q40, t40⟩ := and_e t39
  obtain ⟨q41, t41⟩ := and_e t40
  obtain ⟨q42, t42⟩ := and_e t41
  obtain ⟨q43, t43⟩ := and_e t42
  obtain ⟨q44, t44⟩ := and_e t43
  obtain ⟨q45, t45⟩ := and_e t44
  obtain ⟨q46, t46⟩ := and_e t45
  obtain ⟨q47, t47⟩ := and_e t46
  obtain ⟨q48, t48⟩ := and_e t47
  obtain ⟨q49, t49⟩ := and_e t48
  obtain ⟨q50, t50⟩ := and_e t49
  obtain ⟨q51, t51⟩ := and_e t50
  obtain ⟨q52, t52⟩ := and_e t51
  have q53 := t52
  obtain ⟨v0, ev0⟩ := exa_v q0
  have S0 := Sta.start ev0 (Or.inr ⟨(hw _ (List.mem_of_getElem? (i := 2) rfl)), (hw _ (List.mem_of_getElem? (i := 3) rfl))⟩)
  have E0 := Exa.start ev0 q0
  obtain ⟨v1, ev1⟩ := exa_v q2
  have S1 := Sta.start ev1 (Or.inr ⟨(hw _ (List.mem_of_getElem? (i := 2) rfl)), (hw _ (List.mem_of_getElem? (i := 12) rfl))⟩)
  have E1 := Exa.start ev1 q2
  obtain ⟨v2, ev2⟩ := exa_v q4
  have S2 := Sta.start ev2 (Or.inr ⟨(hw _ (List.mem_of_getElem? (i := 2) rfl)), (hw _ (List.mem_of_getElem? (i := 16) rfl))⟩)
  have E2 := Exa.start ev2 q4
  obtain ⟨v3, ev3⟩ := exa_v q6
  have S3 := Sta.start ev3 (Or.inr ⟨(hw _ (List.mem_of_getElem? (i := 2) rfl)), (hw _ (List.mem_of_getElem? (i := 18) rfl))⟩)
  have E3 := Exa.start ev3 q6
  obtain ⟨v4, ev4⟩ := exa_v q9
  have S4 := Sta.start ev4 (Or.inr ⟨(hw _ (List.mem_of_getElem? (i := 2) rfl)), (hw _ (List.mem_of_getElem? (i := 22) rfl))⟩)
  have E4 := Exa.start ev4 q9
  obtain ⟨v5, ev5⟩ := exa_v q11
  have S5 := Sta.start ev5 (Or.inr ⟨(hw _ (List.mem_of_getElem? (i := 2) rfl)), (hw _ (List.mem_of_getElem? (i := 24) rfl))⟩)
  have E5 := Exa.start ev5 q11
  obtain ⟨v6, ev6⟩ := exa_v q14
  have S6 := Sta.start ev6 (Or.inr ⟨(hw _ (List.mem_of_getElem? (i := 2) rfl)), (hw _ (List.mem_of_getElem? (i := 26) rfl))⟩)
  have E6 := Exa.start ev6 q14
  obtain ⟨v7, ev7⟩ := exa_v q20
  have S7 := Sta.start ev7 (Or.inr ⟨(hw _ (List.mem_of_getElem? (i := 2) rfl)), (hw _ (List.mem_of_getElem? (i := 30) rfl))⟩)
  have E7 := Exa.start ev7 q20
  obtain ⟨v8, ev8⟩ := exa_v q24
  have S8 := Sta.start ev8 (Or.inr ⟨(hw _ (List.mem_of_getElem? (i := 2) rfl)), (hw _ (List.mem_of_getElem? (i := 32) rfl))⟩)
  have E8 := Exa.start ev8 q24
  have F1 := own_fldI ev0 q1
  have F3 := own_fldI ev1 q3
  have F5 := own_fldI ev2 q5
  have F7 := own_fldI ev3 q7
  have F8 := own_fldI ev3 q8
  have F10 := own_fldI ev4 q10
  have F12 := own_fldI ev5 q12
  have F13 := own_fldI ev0 q13
  have F15 := own_fldI ev6 q15
  have F16 := own_fldI ev3 q16
  have F17 := own_fldI ev1 q17
  have F18 := own_fldI ev5 q18
  have F19 := own_fldI ev2 q19
  have F21 := own_fldI ev7 q21
  have F22 := own_fldI ev7 q22
  have F23 := own_fldI ev4 q23
  have F25 := own_fldI ev8 q25
  have F26 := own_fldI ev8 q26
  have F27 := own_fldI ev7 q27
  have F28 := own_fldI ev1 q28
  have F29 := own_fldI ev3 q29
  have F30 := own_fldI ev0 q30
  have F31 := own_fldI ev0 q31
  have F32 := own_fldI ev6 q32
  have F33 := own_fldI ev2 q33
  have F34 := own_fldI ev6 q34
  have F35 := own_fldI ev6 q35
  have F36 := own_fldI ev3 q36
  have F37 := own_fldI ev2 q37
  have F38 := own_fldI ev6 q38
  have F39 := own_fldI ev1 q39
  have F40 := own_fldI ev4 q40
  have F41 := own_fldI ev1 q41
  have F42 := own_fldI ev2 q42
  have F43 := own_fldI ev4 q43
  have F44 := own_fldI ev0 q44
  have F45 := own_fldI ev4 q45
  have F46 := own_fldI ev7 q46
  have F47 := own_fldI ev8 q47
  have F48 := own_fldI ev5 q48
  have F49 := own_fldI ev7 q49
  have F50 := own_fldI ev5 q50
  have F51 := own_fldI ev5 q51
  have F52 := own_fldI ev8 q52
  have F53 := own_fldI ev8 q53
  have P : Pins s s.heap (fun i => [v0, v1, v2, v3, v4, v5, v6, v7, v8].getD i 0) := ⟨S0, E0, S1, E1, S2, E2, S3, E3, S4, E4, S5, E5, S6, E6, S7, E7, S8, E8, F1, F3, F5, F7, F8, F10, F12, F13, F15, F16, F17, F18, F19, F21, F22, F23, F25, F26, F27, F28, F29, F30, F31, F32, F33, F34, F35, F36, F37, F38, F39, F40, F41, F42, F43, F44, F45, F46, F47, F48, F49, F50, F51, F52, F53⟩
  obtain ⟨n, o, h1, h2, h3, _, L, rfl, ⟨rfl, N⟩, hq⟩ := rm0 l s _ hw tables_1 s.heap s.heap.size (Nat.le_refl _) i0 i1 i2 (fun i => [v0, v1, v2, v3, v4, v5, v6, v7, v8].getD i 0) P p e ha hc hk s m _ below hf ((Spec.applies_iff_loose hf).mp happ).1 ⟨rfl, State.Warmed39.refl s, rfl⟩ trivial
  refine ⟨n, _, h1, h2, h3, hpost _ _ _ _ _ _ ⟨Cond.after_iff.mpr rfl, Cond.after_iff.mpr (eq_i res_at (Term.int_eval (1)) rfl), trivial⟩ ⟨hq.1, hq.2.1, (hq.2.2.sift fun y hy => Or.inr (N y hy)).mono (by decide) (by decide)⟩⟩
theorem main_1_1 : Claimed_1_1 := comes_1 fun _ _ _ _ _ _ h hF => ⟨h.1, hF⟩
theorem main_1_2 : Claimed_1_2 := comes_1 fun _ _ _ _ _ _ h hF => ⟨h.2.1, hF⟩
end Jvm.Pilot.@@N@@
namespace Jvm.Pilot.@@N@@
open Jvm Jvm.ClassFile Sem Op Lib Jvm.Free Jvm.Stand Jvm.Pilot.@@N@@.Jvm.D
/-! MADE BY PROGRAM (witnessworld.py) out of the Statement's table words and the real class files: 12 classes; the members and pool entries that the words name. The judged class is class 1, her method 1. -/
namespace start1
open Jvm.ClassFile
def u (s : String) : CpInfo := .utf8 (stringToUtf16 s)
/-- a pool by its gaps: so many unusable entries, then the entry; so many at the end -/
def gap : Nat → List CpInfo → List CpInfo
  | 0, r => r
  | n + 1, r => .unusable :: gap n r
def poolList (es : List (Nat × CpInfo)) (last : Nat) : List CpInfo := es.foldr (fun e r => gap e.1 (e.2 :: r)) (gap last [])
def pool (es : List (Nat × CpInfo)) (last : Nat) : Array CpInfo := ⟨poolList es last⟩
def fileOf (pool : Array CpInfo) (this : Nat) (attrs : Array Attribute := #[]) (ms : Array MethodInfo := #[]) (fl : Nat := 33) (sup : Nat := 0) (ifs : Array Nat := #[]) (fds : Array FieldInfo := #[]) : ClassFile where
  minorVersion := 0
  majorVersion := 65
  constantPool := pool
  accessFlags := fl
  thisClass := this
  superClass := sup
  interfaces := ifs
  fields := fds
  methods := ms
  attributes := attrs
def plain (name : String) (sup : Option ClassId) : Class where
  name := name
  kind := .ordinary
  loader := none
  accessFlags := 33
  super := sup
  interfaces := #[]
  cf := none
  fields := #[]
  methods := #[]
  instanceTypes := #[]
  staticTypes := #[]
  resolved := #[]
  callSites := []
  init := .initialized
  statics := none
  mirror := none

def pool0 : Array CpInfo := pool [(5, u "<init>"), (0, u "()V"), (1, .class_ 10), (1, u "java/lang/Object")] 113

def k0m0 : Method := { name := "<init>", desc := "()V", sig := { parameters := [], returnType := none }, accessFlags := 1, code := none }
/-- java/lang/Object -/
def k0 : Class := { plain "java/lang/Object" none with
  accessFlags := 33
  interfaces := #[]
  cf := some (fileOf pool0 8 #[] #[{ accessFlags := 1, nameIndex := 5, descriptorIndex := 6, attributes := #[] }] 33 0 #[] #[])
  fields := #[]
  methods := #[k0m0]
  instanceTypes := #[]
  staticTypes := #[]
  resolved := Array.replicate 124 none
  statics := none }

def pool1 : Array CpInfo := pool [(2, .class_ 4), (1, u "java/lang/Object"), (0, u "<init>"), (0, u "()V"), (0, .integer 2147483647), (0, .fieldref 9 10), (0, .class_ 11), (0, .nameAndType 12 13), (0, u "com/example/entail/entail/model/Scope"), (0, u "THIS_FOLDER_SUBFOLDERS_AND_DOCUMENTS"), (0, u "Lcom/example/entail/entail/model/Scope;"), (0, .fieldref 9 15), (0, .nameAndType 16 13), (0, u "THIS_FOLDER_AND_SUBFOLDERS"), (0, .fieldref 9 18), (0, .nameAndType 19 13), (0, u "THIS_FOLDER_AND_IMMEDIATE_CHILDREN"), (0, .fieldref 9 21), (0, .nameAndType 22 13), (0, u "SUBFOLDERS_AND_DOCUMENTS_ONLY"), (0, .fieldref 9 24), (0, .nameAndType 25 13), (0, u "SUBFOLDERS_ONLY"), (0, .fieldref 9 27), (0, .nameAndType 28 13), (0, u "DOCUMENTS_ONLY"), (0, .fieldref 9 30), (0, .nameAndType 31 13), (0, u "IMMEDIATE_CHILDREN_ONLY"), (0, .fieldref 9 33), (0, .nameAndType 34 13), (0, u "IMMEDIATE_DOCUMENTS_ONLY"), (0, .fieldref 9 36), (0, .nameAndType 37 13), (0, u "THIS_ENTRY_ONLY"), (0, .methodref 9 39), (0, .nameAndType 40 41), (0, u "reaches"), (0, u "(IZ)Z"), (0, .class_ 43), (0, u "com/example/entail/entail/model/ScopeReachesPinLaw"), (2, u "law"), (0, u "(III)Z")] 3

def k1m0 : Method := { name := "<init>", desc := "()V", sig := { parameters := [], returnType := none }, accessFlags := 1, code := none }
def k1c1 : Code := { maxStack := 3, maxLocals := 11, code := code, exceptionTable := #[], attributes := #[] }
def k1m1 : Method := { name := "law", desc := "(III)Z", sig := { parameters := [.int, .int, .int], returnType := some .boolean }, accessFlags := 9, code := some k1c1 }
/-- com/example/entail/entail/model/ScopeReachesPinLaw -/
def k1 : Class := { plain "com/example/entail/entail/model/ScopeReachesPinLaw" (some 0) with
  accessFlags := 49
  interfaces := #[]
  cf := some (fileOf pool1 42 #[] #[{ accessFlags := 1, nameIndex := 5, descriptorIndex := 6, attributes := #[] }, { accessFlags := 9, nameIndex := 46, descriptorIndex := 47, attributes := #[] }] 49 2 #[] #[])
  fields := #[]
  methods := #[k1m0, k1m1]
  instanceTypes := #[]
  staticTypes := #[]
  resolved := Array.replicate 51 none
  statics := none }

def pool2 : Array CpInfo := pool [(1, .class_ 2), (0, u "java/lang/constant/Constable"), (0, .class_ 4), (0, u "java/lang/Object")] 6

/-- java/lang/constant/Constable -/
def k2 : Class := { plain "java/lang/constant/Constable" (some 0) with
  accessFlags := 1537
  interfaces := #[]
  cf := some (fileOf pool2 1 #[] #[] 1537 3 #[] #[])
  fields := #[]
  methods := #[]
  instanceTypes := #[]
  staticTypes := #[]
  resolved := Array.replicate 11 none
  statics := none }

def pool3 : Array CpInfo := pool [(1, .class_ 2), (0, u "java/lang/Comparable"), (0, .class_ 4), (0, u "java/lang/Object")] 7

/-- java/lang/Comparable -/
def k3 : Class := { plain "java/lang/Comparable" (some 0) with
  accessFlags := 1537
  interfaces := #[]
  cf := some (fileOf pool3 1 #[] #[] 1537 3 #[] #[])
  fields := #[]
  methods := #[]
  instanceTypes := #[]
  staticTypes := #[]
  resolved := Array.replicate 12 none
  statics := none }

def pool4 : Array CpInfo := pool [(1, .class_ 2), (0, u "java/io/Serializable"), (0, .class_ 4), (0, u "java/lang/Object")] 2

/-- java/io/Serializable -/
def k4 : Class := { plain "java/io/Serializable" (some 0) with
  accessFlags := 1537
  interfaces := #[]
  cf := some (fileOf pool4 1 #[] #[] 1537 3 #[] #[])
  fields := #[]
  methods := #[]
  instanceTypes := #[]
  staticTypes := #[]
  resolved := Array.replicate 7 none
  statics := none }

def pool5 : Array CpInfo := pool [(2, .class_ 4), (1, u "java/lang/Enum"), (0, u "name"), (0, u "Ljava/lang/String;"), (2, u "ordinal"), (0, u "I"), (1, .class_ 14), (1, u "java/lang/Object"), (4, u "hash"), (86, .class_ 108), (1, u "java/lang/Enum$EnumDesc"), (2, .class_ 112), (0, u "java/lang/constant/Constable"), (0, .class_ 114), (0, u "java/lang/Comparable"), (0, .class_ 116), (0, u "java/io/Serializable")] 87

/-- java/lang/Enum -/
def k5 : Class := { plain "java/lang/Enum" (some 0) with
  accessFlags := 1057
  interfaces := #[2, 3, 4]
  cf := some (fileOf pool5 2 #[.nestMembers #[106]] #[] 1057 12 #[111, 113, 115] #[{ accessFlags := 18, nameIndex := 5, descriptorIndex := 6, attributes := #[] }, { accessFlags := 18, nameIndex := 9, descriptorIndex := 10, attributes := #[] }, { accessFlags := 2, nameIndex := 19, descriptorIndex := 10, attributes := #[] }])
  fields := #[{ name := "name", type := (.object "java/lang/String"), accessFlags := 18, slot := 0, constantValue := 0 }, { name := "ordinal", type := .int, accessFlags := 18, slot := 1, constantValue := 0 }, { name := "hash", type := .int, accessFlags := 2, slot := 2, constantValue := 0 }]
  methods := #[]
  instanceTypes := #[(.object "java/lang/String"), .int, .int]
  staticTypes := #[]
  resolved := Array.replicate 204 none
  statics := none }

def pool6 : Array CpInfo := pool [(1, .class_ 2), (0, u "com/example/entail/entail/model/Scope"), (2, u "THIS_FOLDER_SUBFOLDERS_AND_DOCUMENTS"), (0, u "Lcom/example/entail/entail/model/Scope;"), (2, u "THIS_FOLDER_AND_SUBFOLDERS"), (2, u "THIS_FOLDER_AND_IMMEDIATE_CHILDREN"), (2, u "SUBFOLDERS_AND_DOCUMENTS_ONLY"), (2, u "SUBFOLDERS_ONLY"), (2, u "DOCUMENTS_ONLY"), (2, u "IMMEDIATE_CHILDREN_ONLY"), (2, u "IMMEDIATE_DOCUMENTS_ONLY"), (2, u "THIS_ENTRY_ONLY"), (2, u "$VALUES"), (0, u "[Lcom/example/entail/entail/model/Scope;"), (6, .class_ 43), (1, u "java/lang/Enum"), (8, u "name"), (0, u "Ljava/lang/String;"), (0, .fieldref 1 55), (0, .nameAndType 56 57), (0, u "self"), (0, u "Z"), (0, .fieldref 1 59), (0, .nameAndType 60 57), (0, u "childFolders"), (0, .fieldref 1 62), (0, .nameAndType 63 57), (0, u "childDocuments"), (0, .fieldref 1 65), (0, .nameAndType 66 57), (0, u "deeperFolders"), (0, .fieldref 1 68), (0, .nameAndType 69 57), (0, u "deeperDocuments"), (74, u "reaches"), (0, u "(IZ)Z")] 20

def k6c0 : Code := { maxStack := 3, maxLocals := 3, code := prog_11_method_6_code, exceptionTable := #[], attributes := #[] }
def k6m0 : Method := { name := "reaches", desc := "(IZ)Z", sig := { parameters := [.int, .boolean], returnType := some .boolean }, accessFlags := 1, code := some k6c0 }
/-- com/example/entail/entail/model/Scope -/
def k6 : Class := { plain "com/example/entail/entail/model/Scope" (some 5) with
  accessFlags := 16433
  interfaces := #[]
  cf := some (fileOf pool6 1 #[] #[{ accessFlags := 1, nameIndex := 144, descriptorIndex := 145, attributes := #[] }] 16433 41 #[] #[{ accessFlags := 16409, nameIndex := 5, descriptorIndex := 6, attributes := #[] }, { accessFlags := 16409, nameIndex := 9, descriptorIndex := 6, attributes := #[] }, { accessFlags := 16409, nameIndex := 12, descriptorIndex := 6, attributes := #[] }, { accessFlags := 16409, nameIndex := 15, descriptorIndex := 6, attributes := #[] }, { accessFlags := 16409, nameIndex := 18, descriptorIndex := 6, attributes := #[] }, { accessFlags := 16409, nameIndex := 21, descriptorIndex := 6, attributes := #[] }, { accessFlags := 16409, nameIndex := 24, descriptorIndex := 6, attributes := #[] }, { accessFlags := 16409, nameIndex := 27, descriptorIndex := 6, attributes := #[] }, { accessFlags := 16409, nameIndex := 30, descriptorIndex := 6, attributes := #[] }, { accessFlags := 18, nameIndex := 52, descriptorIndex := 53, attributes := #[] }, { accessFlags := 18, nameIndex := 56, descriptorIndex := 57, attributes := #[] }, { accessFlags := 18, nameIndex := 60, descriptorIndex := 57, attributes := #[] }, { accessFlags := 18, nameIndex := 63, descriptorIndex := 57, attributes := #[] }, { accessFlags := 18, nameIndex := 66, descriptorIndex := 57, attributes := #[] }, { accessFlags := 18, nameIndex := 69, descriptorIndex := 57, attributes := #[] }, { accessFlags := 4122, nameIndex := 33, descriptorIndex := 34, attributes := #[] }])
  fields := #[{ name := "THIS_FOLDER_SUBFOLDERS_AND_DOCUMENTS", type := (.object "com/example/entail/entail/model/Scope"), accessFlags := 16409, slot := 0, constantValue := 0 }, { name := "THIS_FOLDER_AND_SUBFOLDERS", type := (.object "com/example/entail/entail/model/Scope"), accessFlags := 16409, slot := 1, constantValue := 0 }, { name := "THIS_FOLDER_AND_IMMEDIATE_CHILDREN", type := (.object "com/example/entail/entail/model/Scope"), accessFlags := 16409, slot := 2, constantValue := 0 }, { name := "SUBFOLDERS_AND_DOCUMENTS_ONLY", type := (.object "com/example/entail/entail/model/Scope"), accessFlags := 16409, slot := 3, constantValue := 0 }, { name := "SUBFOLDERS_ONLY", type := (.object "com/example/entail/entail/model/Scope"), accessFlags := 16409, slot := 4, constantValue := 0 }, { name := "DOCUMENTS_ONLY", type := (.object "com/example/entail/entail/model/Scope"), accessFlags := 16409, slot := 5, constantValue := 0 }, { name := "IMMEDIATE_CHILDREN_ONLY", type := (.object "com/example/entail/entail/model/Scope"), accessFlags := 16409, slot := 6, constantValue := 0 }, { name := "IMMEDIATE_DOCUMENTS_ONLY", type := (.object "com/example/entail/entail/model/Scope"), accessFlags := 16409, slot := 7, constantValue := 0 }, { name := "THIS_ENTRY_ONLY", type := (.object "com/example/entail/entail/model/Scope"), accessFlags := 16409, slot := 8, constantValue := 0 }, { name := "name", type := (.object "java/lang/String"), accessFlags := 18, slot := 3, constantValue := 0 }, { name := "self", type := .boolean, accessFlags := 18, slot := 4, constantValue := 0 }, { name := "childFolders", type := .boolean, accessFlags := 18, slot := 5, constantValue := 0 }, { name := "childDocuments", type := .boolean, accessFlags := 18, slot := 6, constantValue := 0 }, { name := "deeperFolders", type := .boolean, accessFlags := 18, slot := 7, constantValue := 0 }, { name := "deeperDocuments", type := .boolean, accessFlags := 18, slot := 8, constantValue := 0 }, { name := "$VALUES", type := (.array (.object "com/example/entail/entail/model/Scope")), accessFlags := 4122, slot := 9, constantValue := 0 }]
  methods := #[k6m0]
  instanceTypes := #[(.object "java/lang/String"), .int, .int, (.object "java/lang/String"), .boolean, .boolean, .boolean, .boolean, .boolean]
  staticTypes := #[(.object "com/example/entail/entail/model/Scope"), (.object "com/example/entail/entail/model/Scope"), (.object "com/example/entail/entail/model/Scope"), (.object "com/example/entail/entail/model/Scope"), (.object "com/example/entail/entail/model/Scope"), (.object "com/example/entail/entail/model/Scope"), (.object "com/example/entail/entail/model/Scope"), (.object "com/example/entail/entail/model/Scope"), (.object "com/example/entail/entail/model/Scope"), (.array (.object "com/example/entail/entail/model/Scope"))]
  resolved := Array.replicate 166 none
  statics := some 0 }

def pool7 : Array CpInfo := pool [(1, u "java/lang/Cloneable"), (0, .class_ 1), (0, u "java/lang/Object"), (0, .class_ 3)] 3

/-- java/lang/Cloneable -/
def k7 : Class := { plain "java/lang/Cloneable" (some 0) with
  accessFlags := 1537
  interfaces := #[]
  cf := some (fileOf pool7 2 #[] #[] 1537 4 #[] #[])
  fields := #[]
  methods := #[]
  instanceTypes := #[]
  staticTypes := #[]
  resolved := Array.replicate 8 none
  statics := none }

/-- the primitive byte -/
def k8 : Class := { plain "byte" none with kind := .primitive 'B', accessFlags := 0x411 }
/-- [B -/
def k9 : Class := { plain "[B" (some 0) with kind := .array 8 .byte, interfaces := #[7, 4], accessFlags := 1041 }

/-- the primitive int -/
def k10 : Class := { plain "int" none with kind := .primitive 'I', accessFlags := 0x411 }
/-- [I -/
def k11 : Class := { plain "[I" (some 0) with kind := .array 10 .int, interfaces := #[7, 4], accessFlags := 1041 }

def heap : Heap := #[{ cls := 6, slots := #[.ref 1, .ref 2, .ref 3, .ref 7, .ref 8, .ref 9, .ref 5, .ref 6, .ref 4, .null], vm := .statics 6 },
  { cls := 6, slots := #[.null, .int 0, .int 0, .null, .int 1, .int 1, .int 1, .int 1, .int 1], vm := .none },
  { cls := 6, slots := #[.null, .int 0, .int 0, .null, .int 1, .int 1, .int 0, .int 1, .int 0], vm := .none },
  { cls := 6, slots := #[.null, .int 0, .int 0, .null, .int 1, .int 1, .int 1, .int 0, .int 0], vm := .none },
  { cls := 6, slots := #[.null, .int 0, .int 0, .null, .int 1, .int 0, .int 0, .int 0, .int 0], vm := .none },
  { cls := 6, slots := #[.null, .int 0, .int 0, .null, .int 0, .int 1, .int 1, .int 0, .int 0], vm := .none },
  { cls := 6, slots := #[.null, .int 0, .int 0, .null, .int 0, .int 0, .int 1, .int 0, .int 0], vm := .none },
  { cls := 6, slots := #[.null, .int 0, .int 0, .null, .int 0, .int 1, .int 1, .int 1, .int 1], vm := .none },
  { cls := 6, slots := #[.null, .int 0, .int 0, .null, .int 0, .int 1, .int 0, .int 1, .int 0], vm := .none },
  { cls := 6, slots := #[.null, .int 0, .int 0, .null, .int 0, .int 0, .int 1, .int 0, .int 1], vm := .none }]
def classes : Array Class := #[k0, k1, k2, k3, k4, k5, k6, k7, k8, k9, k10, k11]
def interned : List (Array UInt16 × Addr) := []
def slotsUsed : Nat := 91
def theMethod : MethodId := ⟨1, 1⟩
def args0 : Array Value := #[.int 5, .int 7, .int 1]
def aboutOver (below : List Frame) : State where
  vm := { classes := classes, interned := interned.toArray }
  heap := heap
  slotsUsed := slotsUsed
  threads := #[{ frames := .invoking theMethod args0 :: below }]
def below0 : List Frame := [.native { method := ⟨0, 0⟩, args := #[] }]
def about1 : State := aboutOver below0
def p0 : Program := .bare "" "" ""
def e0 : Env := launch0.env 0 0 0
theorem w_frames : about1.frames = Frame.invoking theMethod args0 :: below0 := rfl
set_option maxRecDepth 65536 in
theorem w_args : argsFit about1.vm theMethod args0 = true := by decide +kernel
set_option maxRecDepth 65536 in
theorem w_heap : heapFits about1 = true := by decide +kernel
set_option maxRecDepth 65536 in
theorem w_runnable : about1.curStatus? = some .runnable := by decide +kernel
set_option maxRecDepth 65536 in
theorem w_alone : about1.alone = true := by decide +kernel
set_option maxRecDepth 65536 in
theorem w_named : about1.methodNamed? x = some theMethod := by decide +kernel
set_option maxRecDepth 65536 in
theorem w_hears : about1.hears theMethod below0 = true := by decide +kernel
set_option maxRecDepth 65536 in
theorem w_ripe : about1.ripe theMethod args0 below0 = true := by decide +kernel
theorem w_running : about1.status = .running := rfl
set_option maxRecDepth 65536 in
theorem w_room : about1.hasRoom e0.platform room_1 = true :=
  launch0.hasRoom_least _ room_1 (by decide +kernel) (by decide +kernel) (by decide +kernel) (by decide +kernel) (by decide +kernel) (by decide +kernel)
theorem allAtoms_all (ts : List Jvm.Cond) (a : Array Jvm.Value) (st : Jvm.State) : (allAtoms ts).before a st = ts.all (fun c => c.before a st) := by
  induction ts with
  | nil => rfl
  | cons c t ih =>
    show (Jvm.Cond.and c (allAtoms t)).before a st = _
    rw [Jvm.Cond.before_and, ih, List.all_cons]
def words1 : List Jvm.Cond := Jvm.Cond.code x code maxLocals ret :: tables_1
/-- a 'code' word, met by the world's own term for the bytes: nothing is compared byte by byte -/
theorem code_word {y : MethodName} {bytes : ByteArray} {mx : Nat} {rt : Option FieldType} {a : Array Value} {s : State} {m : MethodId} {meth : Method} {c : Code} (h1 : s.methodNamed? y = some m) (h2 : s.vm.method? m = some meth) (h3 : meth.code = some c) (h4 : c.code = bytes)
    (h5 : (c.maxLocals == mx && c.exceptionTable.isEmpty && decide (c.maxStack ≤ mostOperands) && decide (meth.sig.returnType = rt) && !meth.locks && decide (parseMethodDescriptor y.desc = some meth.sig)) = true) : (Jvm.Cond.code y bytes mx rt).before a s = true := by
  simp only [Bool.and_eq_true, beq_iff_eq, Bool.not_eq_true', decide_eq_true_eq] at h5
  obtain ⟨⟨⟨⟨⟨g1, g2⟩, g3⟩, g4⟩, g5⟩, g6⟩ := h5
  simp [Cond.before, Cond.holds, Cond.value, h1, h2, h3, h4, g1, g2, g3, g4, g5, g6]
def isCode : Jvm.Cond → Bool
  | .code _ _ _ _ => true
  | _ => false
theorem all_split {L : List Jvm.Cond} {P : Jvm.Cond → Bool} (h1 : L.all (fun c => isCode c || P c) = true) (h2 : ∀ c ∈ L.filter isCode, P c = true) : L.all P = true := by
  refine List.all_eq_true.mpr fun c hc => ?_
  have h := List.all_eq_true.mp h1 c hc
  rcases Bool.eq_false_or_eq_true (isCode c) with hi | hi
  · exact h2 c (List.mem_filter.mpr ⟨hc, hi⟩)
  · simpa [hi] using h
set_option maxRecDepth 65536 in
theorem w_c0 : (Jvm.Cond.code x code maxLocals ret).before args0 about1 = true := code_word (m := ⟨1, 1⟩) (meth := k1m1) (c := k1c1) (by decide +kernel) rfl rfl rfl (by decide +kernel)
set_option maxRecDepth 65536 in
theorem w_c1 : (Jvm.Cond.code ({ cls := "com/example/entail/entail/model/Scope", name := "reaches", desc := "(IZ)Z" } : Jvm.MethodName) prog_11_method_6_code (3 : Nat) (Option.some Jvm.ClassFile.FieldType.boolean)).before args0 about1 = true := code_word (m := ⟨6, 0⟩) (meth := k6m0) (c := k6c0) (by decide +kernel) rfl rfl rfl (by decide +kernel)
def codes1 : List Jvm.Cond := [Jvm.Cond.code x code maxLocals ret, Jvm.Cond.code ({ cls := "com/example/entail/entail/model/Scope", name := "reaches", desc := "(IZ)Z" } : Jvm.MethodName) prog_11_method_6_code (3 : Nat) (Option.some Jvm.ClassFile.FieldType.boolean)]
set_option maxRecDepth 65536 in
theorem codes_eq : words1.filter isCode = codes1 := rfl
theorem w_codes : ∀ c ∈ words1.filter isCode, c.before args0 about1 = true := by
  rw [codes_eq]
  intro c hc
  simp only [codes1, List.mem_cons, List.not_mem_nil, or_false] at hc
  rcases hc with rfl | rfl
  · exact w_c0
  · exact w_c1
set_option maxRecDepth 65536 in
theorem w_t1 : (words1.take 24).all (fun c => isCode c || c.before args0 about1) = true := by decide +kernel
set_option maxRecDepth 65536 in
theorem w_t2 : (words1.drop 24).all (fun c => isCode c || c.before args0 about1) = true := by decide +kernel
theorem w_tables : (allAtoms (Jvm.Cond.code x code maxLocals ret :: tables_1)).before args0 about1 = true := by
  rw [allAtoms_all]
  show words1.all (fun c => c.before args0 about1) = true
  refine all_split ?_ w_codes
  rw [← List.take_append_drop 24 words1, List.all_append, w_t1, w_t2]
  rfl
set_option maxRecDepth 65536 in
theorem w_case : (Jvm.Cond.and given_1 narrow_1).before args0 about1 = true := by decide +kernel
theorem w_applies : (headSpec (Jvm.Cond.code x code maxLocals ret :: tables_1) room_1).applies x e0.platform about1 = true :=
  (Spec.applies_iff w_frames).mpr ⟨w_running, w_runnable, w_alone, w_named, w_hears, w_ripe, w_room, w_tables⟩
theorem atStart : AtStart classFile x code maxLocals ret World_1 tables_1 room_1 Calls_1 rest_1 Pre_1 launch0 p0 e0 about1 theMethod args0 below0 :=
  ⟨lists_1, trivial, launch0.admits_env _ _ _, launch0.least_env, fairChoices_fair.cas, fairChoices_fair.clock, w_frames, w_args, w_heap, w_applies, trivial, trivial, w_case⟩
end start1
theorem witness_1 : WitnessClaimed_1 := ⟨start1.p0, start1.e0, start1.about1, start1.theMethod, start1.args0, start1.below0, start1.atStart⟩
end Jvm.Pilot.@@N@@
