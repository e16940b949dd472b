import JvmDerived
import JvmDerived.Pilot.@@N@@Statement
import JvmDerived.Pilot.@@N@@Code
set_option linter.unusedVariables false
set_option linter.unusedSimpArgs false
@@BLOCK:NumsL.lean.txt@@
namespace Jvm.Pilot.@@N@@
open Jvm Jvm.ClassFile Sem Op Lib Jvm.Free Jvm.Stand Jvm.LawKit Jvm.RoadKit Bundle Jvm.Pilot.@@N@@.Jvm.D
/-- the run goes on from U and ends as Q says -/
def Goes (p : Program) (e : Env) (below : List Frame) (U : State) (Q : Outcome → State → Prop) : Prop := ∃ s₂ o, Steps p.tables e below U s₂ ∧ s₂.status = .running ∧ Ended s₂ below o ∧ Q o s₂
theorem Goes.by {p : Program} {e : Env} {below : List Frame} {U U' : State} {Q : Outcome → State → Prop} (h : ∀ t, Steps p.tables e below U' t → Steps p.tables e below U t) (g : Goes p e below U' Q) : Goes p e below U Q := by
  obtain ⟨s, o, h1, h2⟩ := g; exact ⟨s, o, h _ h1, h2⟩
theorem Goes.tr {p : Program} {e : Env} {below : List Frame} {U U' : State} {Q : Outcome → State → Prop} (h : Steps p.tables e below U U') (g : Goes p e below U' Q) : Goes p e below U Q := Goes.by (fun _ k => h.trans k) g
theorem Goes.join {α : Type} {p : Program} {e : Env} {below : List Frame} {U : State} {Q : Outcome → State → Prop} (P : α → Prop) (S : α → State) (k : (∀ z, P z → Goes p e below (S z) Q) → Goes p e below U Q) (j : ∀ z, P z → Goes p e below (S z) Q) : Goes p e below U Q := k j
theorem Goes.out {p : Program} {e : Env} {below : List Frame} {U : State} {Q : Outcome → State → Prop} (g : Goes p e below U Q) : ∃ s₂ o, Steps p.tables e below U s₂ ∧ s₂.status = .running ∧ Ended s₂ below o ∧ Q o s₂ := g
/-- a callee that writes nothing and returns r -/
def QP (r : Option Value) (h0 : Heap) (n0 : Nat) (v : Option Value) (h : Heap) (L : List Loc) : Prop := v = r ∧ Fr n0 L ∧ h = h0
/-- the law -/
def QL (n0 : Nat) (v : Option Value) (h : Heap) (L : List Loc) : Prop := v = some (.int 1) ∧ Fr n0 L
theorem own_lt {a b : Int64} (h : a < b) : lcmpW a b < 0 := by rw [lcW]; exact (lc_lt a b).mpr h
theorem own_nlt {a b : Int64} (h : ¬ a < b) : ¬ lcmpW a b < 0 := by rw [lcW]; exact fun q => h ((lc_lt a b).mp q)
theorem own_gt {a b : Int64} (h : b < a) : 0 < lcmpW a b := by rw [lcW]; exact (lc_gt a b).mpr h
theorem own_ngt {a b : Int64} (h : ¬ b < a) : ¬ 0 < lcmpW a b := by rw [lcW]; exact fun q => h ((lc_gt a b).mp q)
theorem own_eq {a b : Int64} (h : a = b) : lcmpW a b = 0 := by rw [lcW]; exact (lc_eq a b).mpr h
theorem own_neq {a b : Int64} (h : ¬ a = b) : ¬ lcmpW a b = 0 := by rw [lcW]; exact fun q => h ((lc_eq a b).mp q)
theorem own_staKeep {Z : State} {h h' : Heap} {C n d : String} {v : Value} {ws : List Addr} (F : Sta Z h C n d v) (K : Keep h h' ws) (q : ∀ x ∈ ws, ∃ c : Cell, h[x]? = some c ∧ c.vm.isStatics = false) : Sta Z h' C n d v := by
  obtain ⟨cf, i, k, f, st, cell, h1, h2, h3, h4, h5, h6, h7⟩ := F
  refine ⟨cf, i, k, f, st, cell, h1, h2, h3, h4, K.2.1 st cell h5 (fun hm => ?_), h6, h7⟩
  obtain ⟨c, e1, e2⟩ := q st hm
  cases e1.symm.trans h5; rw [e2] at h6; cases h6
theorem own_nsE {Z : State} {h : Heap} {a : Addr} {C : String} (F : Exa Z h a C) : ∃ c : Cell, h[a]? = some c ∧ c.vm.isStatics = false := by
  obtain ⟨c, k, h1, h2, h3, h4, h5⟩ := F; exact ⟨c, h1, h4⟩
theorem own_nsV {Z : State} {h : Heap} {a : Addr} {k : ClassId} {ty : FieldType} {n : Int32} {vs : List Value} {d : Value} (F : Arv Z h a k ty n vs d) : ∃ c : Cell, h[a]? = some c ∧ c.vm.isStatics = false := by
  obtain ⟨c, A, r⟩ := F; exact ⟨c, A.1, A.plain⟩
theorem own_fldI {s : State} {args : Array Value} {t : Term} {a : Addr} {C n d : String} {k : Int32} (ev : t.eval args s none [] s = some (.ref a)) (h : (Cond.eq (.field t C n d) (.int k)).value args s none s [] = some true) : Fld s s.heap a C n d (.int k) := by
  obtain ⟨x, y, h1, h2, k1, k2⟩ := cmp_v (Or.inl h)
  obtain rfl : y = .int k := (Option.some.inj h2).symm
  obtain ⟨z, rfl⟩ := k2
  have e1 : (Cond.eq (.field t C n d) (.int k)).value args s none s [] = some (decide (z = k)) := by simp [Cond.value, h1, h2]
  have e2 : z = k := gotT e1 h
  subst e2
  rw [fld_at ev] at h1
  exact Fld.start h1
theorem own_fldR {s : State} {args : Array Value} {t u : Term} {a b : Addr} {C n d : String} (ev : t.eval args s none [] s = some (.ref a)) (eu : u.eval args s none [] s = some (.ref b)) (h : (Cond.eq (.field t C n d) u).value args s none s [] = some true) : Fld s s.heap a C n d (.ref b) := by
  obtain ⟨x, y, h1, h2, k1, k2⟩ := cmp_v (Or.inl h)
  obtain rfl : y = .ref b := Option.some.inj (h2.symm.trans eu)
  have hx : x.isRef = true := k2.2
  have e2 : x = .ref b := gotT (eq_R h1 h2 hx rfl) h
  subst e2
  rw [fld_at ev] at h1
  exact Fld.start h1
def Pins (Z : State) (h : Heap) (w : Nat → Addr) : Prop := Sta Z h "com/example/killdeer/killdeer/GadgetView$Obscured" "NONE" "Lcom/example/killdeer/killdeer/GadgetView$Obscured;" (.ref (w 0)) ∧ Exa Z h (w 0) "com/example/killdeer/killdeer/GadgetView$Obscured"
def own_wr (b o s : Int64) : Prop := (¬ o < 0 ∧ s < b) ∨ (o < 0 ∧ b < s)
def own_in (px py x y w h : Int64) : Prop := ¬ px < x ∧ px - x < w ∧ ¬ py < y ∧ py - y < h
theorem own_px {x d : Int64} (h : ¬ own_wr x d (x + d)) : (x + d < x ↔ d < 0) ∧ x + d - x = d := by
  have e : x + d - x = d := by rw [Int64.add_comm, Int64.add_sub_cancel]
  refine ⟨?_, e⟩
  simp only [own_wr, not_or, Decidable.not_and_iff_or_not, Decidable.not_not] at h
  obtain ⟨h1, h2⟩ := h
  constructor
  · intro q
    rcases h1 with h1 | h1
    · exact h1
    · exact absurd q h1
  · intro q
    rcases h2 with h2 | h2
    · exact absurd q h2
    · have ne : x + d ≠ x := fun z => by
        have q2 := q
        rw [z, Int64.sub_self] at e
        rw [← e] at q2
        exact absurd q2 (by decide)
      rw [Int64.lt_iff_toInt_lt] at h2 ⊢
      have ne' : (x + d).toInt ≠ x.toInt := fun z => ne (Int64.toInt_inj.mp z)
      omega
theorem own_C {x y dx dy w h : Int64} (h1 : ¬ own_wr x dx (x + dx)) (h2 : ¬ own_wr y dy (y + dy)) : own_in (x + dx) (y + dy) x y w h ↔ (¬ dx < 0 ∧ dx < w ∧ ¬ dy < 0 ∧ dy < h) := by
  unfold own_in
  rw [(own_px h1).1, (own_px h1).2, (own_px h2).1, (own_px h2).2]
theorem d1_0 : decode method_2_code 0 = .ok (.lload_n 2, 1) := by decide +kernel
theorem d1_1 : decode method_2_code 1 = .ok (.lconst 0, 1) := by decide +kernel
theorem d1_2 : decode method_2_code 2 = .ok (.lcmp, 1) := by decide +kernel
theorem d1_3 : decode method_2_code 3 = .ok (.ifCond .lt 16, 3) := by decide +kernel
theorem d1_19 : decode method_2_code 19 = .ok (.lload 4, 2) := by decide +kernel
theorem d1_21 : decode method_2_code 21 = .ok (.lload_n 0, 1) := by decide +kernel
theorem d1_22 : decode method_2_code 22 = .ok (.lcmp, 1) := by decide +kernel
theorem d1_23 : decode method_2_code 23 = .ok (.ifCond .le 7, 3) := by decide +kernel
theorem d1_26 : decode method_2_code 26 = .ok (.iconst 1, 1) := by decide +kernel
theorem d1_27 : decode method_2_code 27 = .ok (.goto 4, 3) := by decide +kernel
theorem d1_31 : decode method_2_code 31 = .ok (.ireturn, 1) := by decide +kernel
theorem d1_30 : decode method_2_code 30 = .ok (.iconst 0, 1) := by decide +kernel
theorem d1_6 : decode method_2_code 6 = .ok (.lload 4, 2) := by decide +kernel
theorem d1_8 : decode method_2_code 8 = .ok (.lload_n 0, 1) := by decide +kernel
theorem d1_9 : decode method_2_code 9 = .ok (.lcmp, 1) := by decide +kernel
theorem d1_10 : decode method_2_code 10 = .ok (.ifCond .ge 7, 3) := by decide +kernel
theorem d1_13 : decode method_2_code 13 = .ok (.iconst 1, 1) := by decide +kernel
theorem d1_14 : decode method_2_code 14 = .ok (.goto 4, 3) := by decide +kernel
theorem d1_18 : decode method_2_code 18 = .ok (.ireturn, 1) := by decide +kernel
theorem d1_17 : decode method_2_code 17 = .ok (.iconst 0, 1) := by decide +kernel
theorem ef1_JJJ (m : MethodId) (x0 : Int64) (x1 : Int64) (x2 : Int64) : entryFrame m #[(.long x0), (.long x1), (.long x2)] 6 = mkF m 0 #[.val (.long x0), .second, .val (.long x1), .second, .val (.long x2), .second] [] := by first | (simp [entryFrame, mkF, argsToLocals, Value.category]; done) | rfl
theorem pn0 : plainName "com/example/killdeer/killdeer/GadgetViewContainsPinLaw" = true := by first | (simp [plainName, overriddenIn]; done) | decide +kernel
theorem pd0 : parseMethodDescriptor "(JJJ)Z" = some ⟨[.long, .long, .long], some .boolean⟩ := by decide +kernel
theorem d2_0 : decode prog_16_method_1_code 0 = .ok (.aload_n 0, 1) := by decide +kernel
theorem d2_1 : decode prog_16_method_1_code 1 = .ok (.invokespecial 1, 3) := by decide +kernel
theorem d2_4 : decode prog_16_method_1_code 4 = .ok (.aload_n 0, 1) := by decide +kernel
theorem d2_5 : decode prog_16_method_1_code 5 = .ok (.iload_n 1, 1) := by decide +kernel
theorem d2_6 : decode prog_16_method_1_code 6 = .ok (.putfield 7, 3) := by decide +kernel
theorem d2_9 : decode prog_16_method_1_code 9 = .ok (.aload_n 0, 1) := by decide +kernel
theorem d2_10 : decode prog_16_method_1_code 10 = .ok (.aload_n 2, 1) := by decide +kernel
theorem d2_11 : decode prog_16_method_1_code 11 = .ok (.putfield 13, 3) := by decide +kernel
theorem d2_14 : decode prog_16_method_1_code 14 = .ok (.aload_n 0, 1) := by decide +kernel
theorem d2_15 : decode prog_16_method_1_code 15 = .ok (.lload_n 3, 1) := by decide +kernel
theorem d2_16 : decode prog_16_method_1_code 16 = .ok (.putfield 17, 3) := by decide +kernel
theorem d2_19 : decode prog_16_method_1_code 19 = .ok (.aload_n 0, 1) := by decide +kernel
theorem d2_20 : decode prog_16_method_1_code 20 = .ok (.lload 5, 2) := by decide +kernel
theorem d2_22 : decode prog_16_method_1_code 22 = .ok (.putfield 21, 3) := by decide +kernel
theorem d2_25 : decode prog_16_method_1_code 25 = .ok (.aload_n 0, 1) := by decide +kernel
theorem d2_26 : decode prog_16_method_1_code 26 = .ok (.lload 7, 2) := by decide +kernel
theorem d2_28 : decode prog_16_method_1_code 28 = .ok (.putfield 24, 3) := by decide +kernel
theorem d2_31 : decode prog_16_method_1_code 31 = .ok (.aload_n 0, 1) := by decide +kernel
theorem d2_32 : decode prog_16_method_1_code 32 = .ok (.lload 9, 2) := by decide +kernel
theorem d2_34 : decode prog_16_method_1_code 34 = .ok (.putfield 27, 3) := by decide +kernel
theorem d2_37 : decode prog_16_method_1_code 37 = .ok (.aload_n 0, 1) := by decide +kernel
theorem d2_38 : decode prog_16_method_1_code 38 = .ok (.aload 11, 2) := by decide +kernel
theorem d2_40 : decode prog_16_method_1_code 40 = .ok (.putfield 30, 3) := by decide +kernel
theorem d2_43 : decode prog_16_method_1_code 43 = .ok (.return_, 1) := by decide +kernel
theorem ef2_RIRJJJJR (m : MethodId) (x0 : Addr) (x1 : Int32) (x2 : Addr) (x3 : Int64) (x4 : Int64) (x5 : Int64) (x6 : Int64) (x7 : Addr) : entryFrame m #[(.ref x0), (.int x1), (.ref x2), (.long x3), (.long x4), (.long x5), (.long x6), (.ref x7)] 12 = mkF m 0 #[.val (.ref x0), .val (.int x1), .val (.ref x2), .val (.long x3), .second, .val (.long x4), .second, .val (.long x5), .second, .val (.long x6), .second, .val (.ref x7)] [] := by first | (simp [entryFrame, mkF, argsToLocals, Value.category]; done) | rfl
theorem pn1 : plainName "com/example/killdeer/killdeer/GadgetView" = true := by first | (simp [plainName, overriddenIn]; done) | decide +kernel
theorem pd1 : parseMethodDescriptor "(ZLjava/lang/String;JJJJLcom/example/killdeer/killdeer/GadgetView$Obscured;)V" = some ⟨[.boolean, (.object "java/lang/String"), .long, .long, .long, .long, (.object "com/example/killdeer/killdeer/GadgetView$Obscured")], none⟩ := by decide +kernel
theorem d4_0 : decode prog_16_method_3_code 0 = .ok (.lload_n 1, 1) := by decide +kernel
theorem d4_1 : decode prog_16_method_3_code 1 = .ok (.aload_n 0, 1) := by decide +kernel
theorem d4_2 : decode prog_16_method_3_code 2 = .ok (.getfield 17, 3) := by decide +kernel
theorem d4_5 : decode prog_16_method_3_code 5 = .ok (.lcmp, 1) := by decide +kernel
theorem d4_6 : decode prog_16_method_3_code 6 = .ok (.ifCond .lt 44, 3) := by decide +kernel
theorem d4_50 : decode prog_16_method_3_code 50 = .ok (.iconst 0, 1) := by decide +kernel
theorem d4_51 : decode prog_16_method_3_code 51 = .ok (.ireturn, 1) := by decide +kernel
theorem d4_9 : decode prog_16_method_3_code 9 = .ok (.lload_n 1, 1) := by decide +kernel
theorem d4_10 : decode prog_16_method_3_code 10 = .ok (.aload_n 0, 1) := by decide +kernel
theorem d4_11 : decode prog_16_method_3_code 11 = .ok (.getfield 17, 3) := by decide +kernel
theorem d4_14 : decode prog_16_method_3_code 14 = .ok (.lsub, 1) := by decide +kernel
theorem d4_15 : decode prog_16_method_3_code 15 = .ok (.aload_n 0, 1) := by decide +kernel
theorem d4_16 : decode prog_16_method_3_code 16 = .ok (.getfield 24, 3) := by decide +kernel
theorem d4_19 : decode prog_16_method_3_code 19 = .ok (.lcmp, 1) := by decide +kernel
theorem d4_20 : decode prog_16_method_3_code 20 = .ok (.ifCond .ge 30, 3) := by decide +kernel
theorem d4_23 : decode prog_16_method_3_code 23 = .ok (.lload_n 3, 1) := by decide +kernel
theorem d4_24 : decode prog_16_method_3_code 24 = .ok (.aload_n 0, 1) := by decide +kernel
theorem d4_25 : decode prog_16_method_3_code 25 = .ok (.getfield 21, 3) := by decide +kernel
theorem d4_28 : decode prog_16_method_3_code 28 = .ok (.lcmp, 1) := by decide +kernel
theorem d4_29 : decode prog_16_method_3_code 29 = .ok (.ifCond .lt 21, 3) := by decide +kernel
theorem d4_32 : decode prog_16_method_3_code 32 = .ok (.lload_n 3, 1) := by decide +kernel
theorem d4_33 : decode prog_16_method_3_code 33 = .ok (.aload_n 0, 1) := by decide +kernel
theorem d4_34 : decode prog_16_method_3_code 34 = .ok (.getfield 21, 3) := by decide +kernel
theorem d4_37 : decode prog_16_method_3_code 37 = .ok (.lsub, 1) := by decide +kernel
theorem d4_38 : decode prog_16_method_3_code 38 = .ok (.aload_n 0, 1) := by decide +kernel
theorem d4_39 : decode prog_16_method_3_code 39 = .ok (.getfield 27, 3) := by decide +kernel
theorem d4_42 : decode prog_16_method_3_code 42 = .ok (.lcmp, 1) := by decide +kernel
theorem d4_43 : decode prog_16_method_3_code 43 = .ok (.ifCond .ge 7, 3) := by decide +kernel
theorem d4_46 : decode prog_16_method_3_code 46 = .ok (.iconst 1, 1) := by decide +kernel
theorem d4_47 : decode prog_16_method_3_code 47 = .ok (.goto 4, 3) := by decide +kernel
theorem ef4_RJJ (m : MethodId) (x0 : Addr) (x1 : Int64) (x2 : Int64) : entryFrame m #[(.ref x0), (.long x1), (.long x2)] 5 = mkF m 0 #[.val (.ref x0), .val (.long x1), .second, .val (.long x2), .second] [] := by first | (simp [entryFrame, mkF, argsToLocals, Value.category]; done) | rfl
theorem pd2 : parseMethodDescriptor "(JJ)Z" = some ⟨[.long, .long], some .boolean⟩ := by decide +kernel
theorem ef0_JJJJJJ (m : MethodId) (x0 : Int64) (x1 : Int64) (x2 : Int64) (x3 : Int64) (x4 : Int64) (x5 : Int64) : entryFrame m #[(.long x0), (.long x1), (.long x2), (.long x3), (.long x4), (.long x5)] maxLocals = mkF m 0 #[.val (.long x0), .second, .val (.long x1), .second, .val (.long x2), .second, .val (.long x3), .second, .val (.long x4), .second, .val (.long x5), .second, .unset, .unset, .unset, .unset, .unset, .unset, .unset, .unset, .unset] [] := by first | (simp [entryFrame, mkF, argsToLocals, Value.category, maxLocals]; done) | rfl
def Q_r1_0 (wb wo wsum : Int64) (h0 : Heap) (n0 : Nat) (v : Option Value) (h : Heap) (L : List Loc) : Prop := (v = some (.int 1) ∧ Fr n0 L ∧ h = h0 ∧ own_wr wb wo wsum) ∨ (v = some (.int 0) ∧ Fr n0 L ∧ h = h0 ∧ ¬ own_wr wb wo wsum)
set_option maxRecDepth 65536 in
set_option maxHeartbeats 40000000 in
theorem r1_0 (l : Launch) (Z : State) (a0 : Array Value) (hw : ∀ d ∈ tables_1, d.before a0 Z = true) (ws : List Jvm.Cond) (h0 : Heap) (n0 : Nat) (Z0 : n0 ≤ h0.size) (wb wo wsum : Int64)  :
    MetFree l (⟨"com/example/killdeer/killdeer/GadgetViewContainsPinLaw", "wraps", "(JJJ)Z"⟩ : MethodName) (head1 (Jvm.Cond.code (⟨"com/example/killdeer/killdeer/GadgetViewContainsPinLaw", "wraps", "(JJJ)Z"⟩ : MethodName) method_2_code 6 (some .boolean) :: ws) ({ frames := 0, cells := 0, slots := 0, locals := 0 } : Room)) (fun a U => a = #[(.long wb), (.long wo), (.long wsum)] ∧ Z.Warmed39 U.vm ∧ U.heap = h0) (fun _ _ _ _ _ => True) (fun _ U o U' => ∃ v L, o = .returned v ∧ Q_r1_0 wb wo wsum h0 n0 v U'.heap L ∧ FrameEnd U o U' L ({ frames := 0, cells := 0, slots := 0, locals := 0 } : Room).cells ({ frames := 0, cells := 0, slots := 0, locals := 0 } : Room).slots) := by
  refine MetFree.of_bodySF (plainFor_of_name pn0) hisR ?_
  intro p e s m args below meth c s₁ Bd hml0 hP hK
  obtain ⟨rfl, hZ, hh⟩ := hP
  have hx := Bd.exec
  have hby := Bd.bytes
  have hml : c.maxLocals = 6 := hml0
  have hown : s.vm.findClass "com/example/killdeer/killdeer/GadgetViewContainsPinLaw" = some m.cls := findClass_of_methodNamed Bd.named
  have hnm := (name_of_methodNamed Bd.named Bd.method).1
  have X0 : Stand p l e ({ frames := 0, cells := 0, slots := 0, locals := 0 } : Room) s m #[(.long wb), (.long wo), (.long wsum)] below meth c s₁ [] 0 0 := Stand.of_body Bd
  have e0 : s₁.heap = h0 := by rw [← hh, Bd.state]; rfl
  have N0 := Fr.nil n0
  refine Goes.out (Goes.by (fun tz kz => castTop (ef1_JJJ m wb wo wsum) kz) ?_)
  show Goes p e below (s₁.setTop (mkF m 0 #[.val (.long wb), .second, .val (.long wo), .second, .val (.long wsum), .second] [])) _
  refine Goes.by (fun _ kz => XS.lloadN X0.here hx rfl (hb hby d1_0) rfl (XS.lconst X0.here hx rfl (hb hby d1_1) (XS.lcmp X0.here hx rfl (hb hby d1_2) rfl kz))) ?_
  show Goes p e below (s₁.setTop (mkF m 3 #[.val (.long wb), .second, .val (.long wo), .second, .val (.long wsum), .second] [(.int (lcmpW wo (0 : Int64)))])) _
  by_cases hc1 : wo < (0 : Int64)
  · refine Goes.by (fun _ kz => XS.ifYes X0.here hx rfl (pc0 := 3) (pc' := 19) rfl (hb hby d1_3) rfl ((if0 _ _).trans (tlt (own_lt hc1)).1) (by decide) (by decide) (XS.lload X0.here hx rfl (hb hby d1_19) rfl (XS.lloadN X0.here hx rfl (hb hby d1_21) rfl kz))) ?_
    show Goes p e below (s₁.setTop (mkF m 22 #[.val (.long wb), .second, .val (.long wo), .second, .val (.long wsum), .second] [(.long wb), (.long wsum)])) _
    refine Goes.by (fun _ kz => XS.lcmp X0.here hx rfl (hb hby d1_22) rfl kz) ?_
    show Goes p e below (s₁.setTop (mkF m 23 #[.val (.long wb), .second, .val (.long wo), .second, .val (.long wsum), .second] [(.int (lcmpW wsum wb))])) _
    by_cases hc2 : wb < wsum
    · refine Goes.by (fun _ kz => XS.ifNo X0.here hx rfl (hb hby d1_23) rfl ((if0 _ _).trans (tlt (own_gt hc2)).2.2.2) (XS.iconst X0.here hx rfl (hb hby d1_26) (XS.goto X0.here hx rfl (pc0 := 27) (pc' := 31) rfl (hb hby d1_27) (by decide) (by decide) kz))) ?_
      show Goes p e below (s₁.setTop (mkF m 31 #[.val (.long wb), .second, .val (.long wo), .second, .val (.long wsum), .second] [(.int (1 : Int32))])) _
      obtain ⟨fs, hr, hrun, hended, hW, hsame⟩ := X0.leave (v := some (.int (1 : Int32))) (fun h => by rw [Bd.returns] at h; cases h)
      exact ⟨_, _, retN X0 hx (t := .boolean) Bd.returns (by simp) (hb hby d1_31) hr, hrun, hended, _, _, rfl, (Or.inl ⟨rfl, N0, e0, (by simp [own_wr, hc1, hc2])⟩), ⟨_, rfl⟩, hW, hsame.mono (by decide) (by decide)⟩
    · refine Goes.by (fun _ kz => XS.ifYes X0.here hx rfl (pc0 := 23) (pc' := 30) rfl (hb hby d1_23) rfl ((if0 _ _).trans (flt (own_ngt hc2)).2.2.2) (by decide) (by decide) (XS.iconst X0.here hx rfl (hb hby d1_30) kz)) ?_
      show Goes p e below (s₁.setTop (mkF m 31 #[.val (.long wb), .second, .val (.long wo), .second, .val (.long wsum), .second] [(.int (0 : Int32))])) _
      obtain ⟨fs, hr, hrun, hended, hW, hsame⟩ := X0.leave (v := some (.int (0 : Int32))) (fun h => by rw [Bd.returns] at h; cases h)
      exact ⟨_, _, retN X0 hx (t := .boolean) Bd.returns (by simp) (hb hby d1_31) hr, hrun, hended, _, _, rfl, (Or.inr ⟨rfl, N0, e0, (by simp [own_wr, hc1, hc2])⟩), ⟨_, rfl⟩, hW, hsame.mono (by decide) (by decide)⟩
  · refine Goes.by (fun _ kz => XS.ifNo X0.here hx rfl (hb hby d1_3) rfl ((if0 _ _).trans (flt (own_nlt hc1)).1) (XS.lload X0.here hx rfl (hb hby d1_6) rfl (XS.lloadN X0.here hx rfl (hb hby d1_8) rfl kz))) ?_
    show Goes p e below (s₁.setTop (mkF m 9 #[.val (.long wb), .second, .val (.long wo), .second, .val (.long wsum), .second] [(.long wb), (.long wsum)])) _
    refine Goes.by (fun _ kz => XS.lcmp X0.here hx rfl (hb hby d1_9) rfl kz) ?_
    show Goes p e below (s₁.setTop (mkF m 10 #[.val (.long wb), .second, .val (.long wo), .second, .val (.long wsum), .second] [(.int (lcmpW wsum wb))])) _
    by_cases hc3 : wsum < wb
    · refine Goes.by (fun _ kz => XS.ifNo X0.here hx rfl (hb hby d1_10) rfl ((if0 _ _).trans (tlt (own_lt hc3)).2.1) (XS.iconst X0.here hx rfl (hb hby d1_13) (XS.goto X0.here hx rfl (pc0 := 14) (pc' := 18) rfl (hb hby d1_14) (by decide) (by decide) kz))) ?_
      show Goes p e below (s₁.setTop (mkF m 18 #[.val (.long wb), .second, .val (.long wo), .second, .val (.long wsum), .second] [(.int (1 : Int32))])) _
      obtain ⟨fs, hr, hrun, hended, hW, hsame⟩ := X0.leave (v := some (.int (1 : Int32))) (fun h => by rw [Bd.returns] at h; cases h)
      exact ⟨_, _, retN X0 hx (t := .boolean) Bd.returns (by simp) (hb hby d1_18) hr, hrun, hended, _, _, rfl, (Or.inl ⟨rfl, N0, e0, (by simp [own_wr, hc1, hc3])⟩), ⟨_, rfl⟩, hW, hsame.mono (by decide) (by decide)⟩
    · refine Goes.by (fun _ kz => XS.ifYes X0.here hx rfl (pc0 := 10) (pc' := 17) rfl (hb hby d1_10) rfl ((if0 _ _).trans (flt (own_nlt hc3)).2.1) (by decide) (by decide) (XS.iconst X0.here hx rfl (hb hby d1_17) kz)) ?_
      show Goes p e below (s₁.setTop (mkF m 18 #[.val (.long wb), .second, .val (.long wo), .second, .val (.long wsum), .second] [(.int (0 : Int32))])) _
      obtain ⟨fs, hr, hrun, hended, hW, hsame⟩ := X0.leave (v := some (.int (0 : Int32))) (fun h => by rw [Bd.returns] at h; cases h)
      exact ⟨_, _, retN X0 hx (t := .boolean) Bd.returns (by simp) (hb hby d1_18) hr, hrun, hended, _, _, rfl, (Or.inr ⟨rfl, N0, e0, (by simp [own_wr, hc1, hc3])⟩), ⟨_, rfl⟩, hW, hsame.mono (by decide) (by decide)⟩
def Q_r2_10 (Z : State) (p1 : Int64) (p2 : Int64) (p3 : Int64) (p4 : Int64) (w : Nat → Addr) (b6 : Addr) (a7 : Addr) (h0 : Heap) (n0 : Nat) (v : Option Value) (h : Heap) (L : List Loc) : Prop := (v = none ∧ Fr n0 L ∧ Keep h0 h [b6] ∧ Fld Z h b6 "com/example/killdeer/killdeer/GadgetView" "visible" "Z" (.int (1 : Int32)) ∧ Fld Z h b6 "com/example/killdeer/killdeer/GadgetView" "appearance" "Ljava/lang/String;" (.ref a7) ∧ Fld Z h b6 "com/example/killdeer/killdeer/GadgetView" "x" "J" (.long p1) ∧ Fld Z h b6 "com/example/killdeer/killdeer/GadgetView" "y" "J" (.long p2) ∧ Fld Z h b6 "com/example/killdeer/killdeer/GadgetView" "width" "J" (.long p3) ∧ Fld Z h b6 "com/example/killdeer/killdeer/GadgetView" "height" "J" (.long p4) ∧ Fld Z h b6 "com/example/killdeer/killdeer/GadgetView" "obscured" "Lcom/example/killdeer/killdeer/GadgetView$Obscured;" (.ref (w 0)))
set_option maxRecDepth 65536 in
set_option maxHeartbeats 40000000 in
theorem r2_10 (l : Launch) (Z : State) (a0 : Array Value) (hw : ∀ d ∈ tables_1, d.before a0 Z = true) (ws : List Jvm.Cond) (h0 : Heap) (n0 : Nat) (Z0 : n0 ≤ h0.size) (p1 : Int64) (p2 : Int64) (p3 : Int64) (p4 : Int64) (w : Nat → Addr) (b6 : Addr) (a7 : Addr) (u11_2 : Exa Z h0 b6 "com/example/killdeer/killdeer/GadgetView") (u11_3 : Fld Z h0 b6 "com/example/killdeer/killdeer/GadgetView" "visible" "Z" (.int (0 : Int32))) (u11_4 : Fld Z h0 b6 "com/example/killdeer/killdeer/GadgetView" "appearance" "Ljava/lang/String;" .null) (u11_5 : Fld Z h0 b6 "com/example/killdeer/killdeer/GadgetView" "x" "J" (.long (0 : Int64))) (u11_6 : Fld Z h0 b6 "com/example/killdeer/killdeer/GadgetView" "y" "J" (.long (0 : Int64))) (u11_7 : Fld Z h0 b6 "com/example/killdeer/killdeer/GadgetView" "width" "J" (.long (0 : Int64))) (u11_8 : Fld Z h0 b6 "com/example/killdeer/killdeer/GadgetView" "height" "J" (.long (0 : Int64))) (u11_9 : Fld Z h0 b6 "com/example/killdeer/killdeer/GadgetView" "obscured" "Lcom/example/killdeer/killdeer/GadgetView$Obscured;" .null) (g_b6 : n0 ≤ b6) :
    MetFree l (⟨"com/example/killdeer/killdeer/GadgetView", "<init>", "(ZLjava/lang/String;JJJJLcom/example/killdeer/killdeer/GadgetView$Obscured;)V"⟩ : MethodName) (head1 (Jvm.Cond.code (⟨"com/example/killdeer/killdeer/GadgetView", "<init>", "(ZLjava/lang/String;JJJJLcom/example/killdeer/killdeer/GadgetView$Obscured;)V"⟩ : MethodName) prog_16_method_1_code 12 none :: ws) ({ frames := 1, cells := 0, slots := 0, locals := 12 } : Room)) (fun a U => a = #[(.ref b6), (.int (1 : Int32)), (.ref a7), (.long p1), (.long p2), (.long p3), (.long p4), (.ref (w 0))] ∧ Z.Warmed39 U.vm ∧ U.heap = h0) (fun _ _ _ _ _ => True) (fun _ U o U' => ∃ v L, o = .returned v ∧ Q_r2_10 Z p1 p2 p3 p4 w b6 a7 h0 n0 v U'.heap L ∧ FrameEnd U o U' L ({ frames := 1, cells := 0, slots := 0, locals := 12 } : Room).cells ({ frames := 1, cells := 0, slots := 0, locals := 12 } : Room).slots) := by
  refine MetFree.of_bodySF (plainFor_of_name pn1) hisR ?_
  intro p e s m args below meth c s₁ Bd hml0 hP hK
  obtain ⟨rfl, hZ, hh⟩ := hP
  have hx := Bd.exec
  have hby := Bd.bytes
  have hml : c.maxLocals = 12 := hml0
  have hown : s.vm.findClass "com/example/killdeer/killdeer/GadgetView" = some m.cls := findClass_of_methodNamed Bd.named
  have hnm := (name_of_methodNamed Bd.named Bd.method).1
  have X0 : Stand p l e ({ frames := 1, cells := 0, slots := 0, locals := 12 } : Room) s m #[(.ref b6), (.int (1 : Int32)), (.ref a7), (.long p1), (.long p2), (.long p3), (.long p4), (.ref (w 0))] below meth c s₁ [] 0 0 := Stand.of_body Bd
  have e0 : s₁.heap = h0 := by rw [← hh, Bd.state]; rfl
  have N0 := Fr.nil n0
  refine Goes.out (Goes.by (fun tz kz => castTop (ef2_RIRJJJJR m b6 ((1 : Int32)) a7 p1 p2 p3 p4 ((w 0))) kz) ?_)
  show Goes p e below (s₁.setTop (mkF m 0 #[.val (.ref b6), .val (.int (1 : Int32)), .val (.ref a7), .val (.long p1), .second, .val (.long p2), .second, .val (.long p3), .second, .val (.long p4), .second, .val (.ref (w 0))] [])) _
  refine Goes.by (fun _ kz => XS.aloadN X0.here hx rfl (hb hby d2_0) rfl rfl kz) ?_
  obtain ⟨T13, X13, e13, st13⟩ := initO X0 hx hZ hown (hw _ (List.mem_of_getElem? (i := 21) rfl)) (hw _ (List.mem_of_getElem? (i := 22) rfl)) (hw _ (List.mem_of_getElem? (i := 23) rfl)) e0 (g := (mkF m 1 #[.val (.ref b6), .val (.int (1 : Int32)), .val (.ref a7), .val (.long p1), .second, .val (.long p2), .second, .val (.long p3), .second, .val (.long p4), .second, .val (.ref (w 0))] [(.ref b6)])) rfl (by rw [hml]; rfl) rfl (hb hby d2_1) (by decide) (W := 0) (by show 2 * 0 + _ ≤ _; exact Nat.le_of_eq rfl) (by decide)
  refine Goes.by st13 ?_
  refine Goes.by (fun _ kz => XS.aloadN X13.here hx rfl (hb hby d2_4) rfl rfl (XS.iloadN X13.here hx rfl (hb hby d2_5) rfl kz)) ?_
  obtain ⟨T14, h14, X14, e14, W14, st14⟩ := putFN X13 hx hZ hown (hw _ (List.mem_of_getElem? (i := 24) rfl)) Via.refl e13 u11_3 u11_2 (Or.inr ⟨(hw _ (List.mem_of_getElem? (i := 25) rfl)), rfl, hnm⟩) (hw _ (List.mem_of_getElem? (i := 5) rfl)) (ty := .boolean) (v' := (.int (1 : Int32))) (by decide) rfl rfl (g := (mkF m 6 #[.val (.ref b6), .val (.int (1 : Int32)), .val (.ref a7), .val (.long p1), .second, .val (.long p2), .second, .val (.long p3), .second, .val (.long p4), .second, .val (.ref (w 0))] [(.int (1 : Int32)), (.ref b6)])) rfl rfl (hb hby d2_6)
  have Fw14 := Fld.same W14 u11_3
  have K14 : Keep h0 h14 [b6] := Keep.wr (Keep.refl h0 [b6]) W14 (Or.inl (List.mem_of_getElem? (i := 0) rfl))
  have Z14 : n0 ≤ h14.size := Nat.le_trans Z0 (Keep.of_wr W14).1
  have N14 := Fr.snoc X14 N0 g_b6
  refine Goes.by st14 ?_
  refine Goes.by (fun _ kz => XS.aloadN X14.here hx rfl (hb hby d2_9) rfl rfl (XS.aloadN X14.here hx rfl (hb hby d2_10) rfl rfl kz)) ?_
  have f15 := (Exa.wr W14 u11_2)
  have f16 := (Fld.other W14 u11_4 (Or.inr (slot_ne (Or.inr (hw _ (List.mem_of_getElem? (i := 27) rfl))) (Or.inr (hw _ (List.mem_of_getElem? (i := 25) rfl))) (by decide) (t := (.object "java/lang/String")) (t' := .boolean) (by decide) (by decide))))
  obtain ⟨T17, h17, X17, e17, W17, st17⟩ := putF X14 hx hZ hown (host := "") (Or.inl (hw _ (List.mem_of_getElem? (i := 26) rfl))) Via.refl e14 f16 f15 (Or.inr ⟨(hw _ (List.mem_of_getElem? (i := 27) rfl)), rfl, hnm⟩) (hw _ (List.mem_of_getElem? (i := 5) rfl)) (ty := (.object "java/lang/String")) (by decide) rfl rfl (g := (mkF m 11 #[.val (.ref b6), .val (.int (1 : Int32)), .val (.ref a7), .val (.long p1), .second, .val (.long p2), .second, .val (.long p3), .second, .val (.long p4), .second, .val (.ref (w 0))] [(.ref a7), (.ref b6)])) rfl rfl (hb hby d2_11)
  have Fw17 := Fld.same W17 f16
  have K17 : Keep h0 h17 [b6] := Keep.wr K14 W17 (Or.inl (List.mem_of_getElem? (i := 0) rfl))
  have Z17 : n0 ≤ h17.size := Nat.le_trans Z14 (Keep.of_wr W17).1
  have N17 := Fr.snoc X17 N14 g_b6
  refine Goes.by st17 ?_
  refine Goes.by (fun _ kz => XS.aloadN X17.here hx rfl (hb hby d2_14) rfl rfl (XS.lloadN X17.here hx rfl (hb hby d2_15) rfl kz)) ?_
  have f18 := (Exa.wr W17 f15)
  have f19 := (Fld.other W17 (Fld.other W14 u11_5 (Or.inr (slot_ne (Or.inr (hw _ (List.mem_of_getElem? (i := 29) rfl))) (Or.inr (hw _ (List.mem_of_getElem? (i := 25) rfl))) (by decide) (t := .long) (t' := .boolean) (by decide) (by decide)))) (Or.inr (slot_ne (Or.inr (hw _ (List.mem_of_getElem? (i := 29) rfl))) (Or.inr (hw _ (List.mem_of_getElem? (i := 27) rfl))) (by decide) (t := .long) (t' := (.object "java/lang/String")) (by decide) (by decide))))
  obtain ⟨T20, h20, X20, e20, W20, st20⟩ := putF X17 hx hZ hown (host := "") (Or.inl (hw _ (List.mem_of_getElem? (i := 28) rfl))) Via.refl e17 f19 f18 (Or.inr ⟨(hw _ (List.mem_of_getElem? (i := 29) rfl)), rfl, hnm⟩) (hw _ (List.mem_of_getElem? (i := 5) rfl)) (ty := .long) (by decide) rfl rfl (g := (mkF m 16 #[.val (.ref b6), .val (.int (1 : Int32)), .val (.ref a7), .val (.long p1), .second, .val (.long p2), .second, .val (.long p3), .second, .val (.long p4), .second, .val (.ref (w 0))] [(.long p1), (.ref b6)])) rfl rfl (hb hby d2_16)
  have Fw20 := Fld.same W20 f19
  have K20 : Keep h0 h20 [b6] := Keep.wr K17 W20 (Or.inl (List.mem_of_getElem? (i := 0) rfl))
  have Z20 : n0 ≤ h20.size := Nat.le_trans Z17 (Keep.of_wr W20).1
  have N20 := Fr.snoc X20 N17 g_b6
  refine Goes.by st20 ?_
  refine Goes.by (fun _ kz => XS.aloadN X20.here hx rfl (hb hby d2_19) rfl rfl (XS.lload X20.here hx rfl (hb hby d2_20) rfl kz)) ?_
  have f21 := (Exa.wr W20 f18)
  have f22 := (Fld.other W20 (Fld.other W17 (Fld.other W14 u11_6 (Or.inr (slot_ne (Or.inr (hw _ (List.mem_of_getElem? (i := 31) rfl))) (Or.inr (hw _ (List.mem_of_getElem? (i := 25) rfl))) (by decide) (t := .long) (t' := .boolean) (by decide) (by decide)))) (Or.inr (slot_ne (Or.inr (hw _ (List.mem_of_getElem? (i := 31) rfl))) (Or.inr (hw _ (List.mem_of_getElem? (i := 27) rfl))) (by decide) (t := .long) (t' := (.object "java/lang/String")) (by decide) (by decide)))) (Or.inr (slot_ne (Or.inr (hw _ (List.mem_of_getElem? (i := 31) rfl))) (Or.inr (hw _ (List.mem_of_getElem? (i := 29) rfl))) (by decide) (t := .long) (t' := .long) (by decide) (by decide))))
  obtain ⟨T23, h23, X23, e23, W23, st23⟩ := putF X20 hx hZ hown (host := "") (Or.inl (hw _ (List.mem_of_getElem? (i := 30) rfl))) Via.refl e20 f22 f21 (Or.inr ⟨(hw _ (List.mem_of_getElem? (i := 31) rfl)), rfl, hnm⟩) (hw _ (List.mem_of_getElem? (i := 5) rfl)) (ty := .long) (by decide) rfl rfl (g := (mkF m 22 #[.val (.ref b6), .val (.int (1 : Int32)), .val (.ref a7), .val (.long p1), .second, .val (.long p2), .second, .val (.long p3), .second, .val (.long p4), .second, .val (.ref (w 0))] [(.long p2), (.ref b6)])) rfl rfl (hb hby d2_22)
  have Fw23 := Fld.same W23 f22
  have K23 : Keep h0 h23 [b6] := Keep.wr K20 W23 (Or.inl (List.mem_of_getElem? (i := 0) rfl))
  have Z23 : n0 ≤ h23.size := Nat.le_trans Z20 (Keep.of_wr W23).1
  have N23 := Fr.snoc X23 N20 g_b6
  refine Goes.by st23 ?_
  refine Goes.by (fun _ kz => XS.aloadN X23.here hx rfl (hb hby d2_25) rfl rfl (XS.lload X23.here hx rfl (hb hby d2_26) rfl kz)) ?_
  have f24 := (Exa.wr W23 f21)
  have f25 := (Fld.other W23 (Fld.other W20 (Fld.other W17 (Fld.other W14 u11_7 (Or.inr (slot_ne (Or.inr (hw _ (List.mem_of_getElem? (i := 33) rfl))) (Or.inr (hw _ (List.mem_of_getElem? (i := 25) rfl))) (by decide) (t := .long) (t' := .boolean) (by decide) (by decide)))) (Or.inr (slot_ne (Or.inr (hw _ (List.mem_of_getElem? (i := 33) rfl))) (Or.inr (hw _ (List.mem_of_getElem? (i := 27) rfl))) (by decide) (t := .long) (t' := (.object "java/lang/String")) (by decide) (by decide)))) (Or.inr (slot_ne (Or.inr (hw _ (List.mem_of_getElem? (i := 33) rfl))) (Or.inr (hw _ (List.mem_of_getElem? (i := 29) rfl))) (by decide) (t := .long) (t' := .long) (by decide) (by decide)))) (Or.inr (slot_ne (Or.inr (hw _ (List.mem_of_getElem? (i := 33) rfl))) (Or.inr (hw _ (List.mem_of_getElem? (i := 31) rfl))) (by decide) (t := .long) (t' := .long) (by decide) (by decide))))
  obtain ⟨T26, h26, X26, e26, W26, st26⟩ := putF X23 hx hZ hown (host := "") (Or.inl (hw _ (List.mem_of_getElem? (i := 32) rfl))) Via.refl e23 f25 f24 (Or.inr ⟨(hw _ (List.mem_of_getElem? (i := 33) rfl)), rfl, hnm⟩) (hw _ (List.mem_of_getElem? (i := 5) rfl)) (ty := .long) (by decide) rfl rfl (g := (mkF m 28 #[.val (.ref b6), .val (.int (1 : Int32)), .val (.ref a7), .val (.long p1), .second, .val (.long p2), .second, .val (.long p3), .second, .val (.long p4), .second, .val (.ref (w 0))] [(.long p3), (.ref b6)])) rfl rfl (hb hby d2_28)
  have Fw26 := Fld.same W26 f25
  have K26 : Keep h0 h26 [b6] := Keep.wr K23 W26 (Or.inl (List.mem_of_getElem? (i := 0) rfl))
  have Z26 : n0 ≤ h26.size := Nat.le_trans Z23 (Keep.of_wr W26).1
  have N26 := Fr.snoc X26 N23 g_b6
  refine Goes.by st26 ?_
  refine Goes.by (fun _ kz => XS.aloadN X26.here hx rfl (hb hby d2_31) rfl rfl (XS.lload X26.here hx rfl (hb hby d2_32) rfl kz)) ?_
  have f27 := (Exa.wr W26 f24)
  have f28 := (Fld.other W26 (Fld.other W23 (Fld.other W20 (Fld.other W17 (Fld.other W14 u11_8 (Or.inr (slot_ne (Or.inr (hw _ (List.mem_of_getElem? (i := 35) rfl))) (Or.inr (hw _ (List.mem_of_getElem? (i := 25) rfl))) (by decide) (t := .long) (t' := .boolean) (by decide) (by decide)))) (Or.inr (slot_ne (Or.inr (hw _ (List.mem_of_getElem? (i := 35) rfl))) (Or.inr (hw _ (List.mem_of_getElem? (i := 27) rfl))) (by decide) (t := .long) (t' := (.object "java/lang/String")) (by decide) (by decide)))) (Or.inr (slot_ne (Or.inr (hw _ (List.mem_of_getElem? (i := 35) rfl))) (Or.inr (hw _ (List.mem_of_getElem? (i := 29) rfl))) (by decide) (t := .long) (t' := .long) (by decide) (by decide)))) (Or.inr (slot_ne (Or.inr (hw _ (List.mem_of_getElem? (i := 35) rfl))) (Or.inr (hw _ (List.mem_of_getElem? (i := 31) rfl))) (by decide) (t := .long) (t' := .long) (by decide) (by decide)))) (Or.inr (slot_ne (Or.inr (hw _ (List.mem_of_getElem? (i := 35) rfl))) (Or.inr (hw _ (List.mem_of_getElem? (i := 33) rfl))) (by decide) (t := .long) (t' := .long) (by decide) (by decide))))
  obtain ⟨T29, h29, X29, e29, W29, st29⟩ := putF X26 hx hZ hown (host := "") (Or.inl (hw _ (List.mem_of_getElem? (i := 34) rfl))) Via.refl e26 f28 f27 (Or.inr ⟨(hw _ (List.mem_of_getElem? (i := 35) rfl)), rfl, hnm⟩) (hw _ (List.mem_of_getElem? (i := 5) rfl)) (ty := .long) (by decide) rfl rfl (g := (mkF m 34 #[.val (.ref b6), .val (.int (1 : Int32)), .val (.ref a7), .val (.long p1), .second, .val (.long p2), .second, .val (.long p3), .second, .val (.long p4), .second, .val (.ref (w 0))] [(.long p4), (.ref b6)])) rfl rfl (hb hby d2_34)
  have Fw29 := Fld.same W29 f28
  have K29 : Keep h0 h29 [b6] := Keep.wr K26 W29 (Or.inl (List.mem_of_getElem? (i := 0) rfl))
  have Z29 : n0 ≤ h29.size := Nat.le_trans Z26 (Keep.of_wr W29).1
  have N29 := Fr.snoc X29 N26 g_b6
  refine Goes.by st29 ?_
  refine Goes.by (fun _ kz => XS.aloadN X29.here hx rfl (hb hby d2_37) rfl rfl (XS.aload X29.here hx rfl (hb hby d2_38) rfl rfl kz)) ?_
  have f30 := (Exa.wr W29 f27)
  have f31 := (Fld.other W29 (Fld.other W26 (Fld.other W23 (Fld.other W20 (Fld.other W17 (Fld.other W14 u11_9 (Or.inr (slot_ne (Or.inr (hw _ (List.mem_of_getElem? (i := 37) rfl))) (Or.inr (hw _ (List.mem_of_getElem? (i := 25) rfl))) (by decide) (t := (.object "com/example/killdeer/killdeer/GadgetView$Obscured")) (t' := .boolean) (by decide) (by decide)))) (Or.inr (slot_ne (Or.inr (hw _ (List.mem_of_getElem? (i := 37) rfl))) (Or.inr (hw _ (List.mem_of_getElem? (i := 27) rfl))) (by decide) (t := (.object "com/example/killdeer/killdeer/GadgetView$Obscured")) (t' := (.object "java/lang/String")) (by decide) (by decide)))) (Or.inr (slot_ne (Or.inr (hw _ (List.mem_of_getElem? (i := 37) rfl))) (Or.inr (hw _ (List.mem_of_getElem? (i := 29) rfl))) (by decide) (t := (.object "com/example/killdeer/killdeer/GadgetView$Obscured")) (t' := .long) (by decide) (by decide)))) (Or.inr (slot_ne (Or.inr (hw _ (List.mem_of_getElem? (i := 37) rfl))) (Or.inr (hw _ (List.mem_of_getElem? (i := 31) rfl))) (by decide) (t := (.object "com/example/killdeer/killdeer/GadgetView$Obscured")) (t' := .long) (by decide) (by decide)))) (Or.inr (slot_ne (Or.inr (hw _ (List.mem_of_getElem? (i := 37) rfl))) (Or.inr (hw _ (List.mem_of_getElem? (i := 33) rfl))) (by decide) (t := (.object "com/example/killdeer/killdeer/GadgetView$Obscured")) (t' := .long) (by decide) (by decide)))) (Or.inr (slot_ne (Or.inr (hw _ (List.mem_of_getElem? (i := 37) rfl))) (Or.inr (hw _ (List.mem_of_getElem? (i := 35) rfl))) (by decide) (t := (.object "com/example/killdeer/killdeer/GadgetView$Obscured")) (t' := .long) (by decide) (by decide))))
  obtain ⟨T32, h32, X32, e32, W32, st32⟩ := putF X29 hx hZ hown (host := "") (Or.inl (hw _ (List.mem_of_getElem? (i := 36) rfl))) Via.refl e29 f31 f30 (Or.inr ⟨(hw _ (List.mem_of_getElem? (i := 37) rfl)), rfl, hnm⟩) (hw _ (List.mem_of_getElem? (i := 5) rfl)) (ty := (.object "com/example/killdeer/killdeer/GadgetView$Obscured")) (by decide) rfl rfl (g := (mkF m 40 #[.val (.ref b6), .val (.int (1 : Int32)), .val (.ref a7), .val (.long p1), .second, .val (.long p2), .second, .val (.long p3), .second, .val (.long p4), .second, .val (.ref (w 0))] [(.ref (w 0)), (.ref b6)])) rfl rfl (hb hby d2_40)
  have Fw32 := Fld.same W32 f31
  have K32 : Keep h0 h32 [b6] := Keep.wr K29 W32 (Or.inl (List.mem_of_getElem? (i := 0) rfl))
  have Z32 : n0 ≤ h32.size := Nat.le_trans Z29 (Keep.of_wr W32).1
  have N32 := Fr.snoc X32 N29 g_b6
  refine Goes.by st32 ?_
  show Goes p e below (T32.setTop (mkF m 43 #[.val (.ref b6), .val (.int (1 : Int32)), .val (.ref a7), .val (.long p1), .second, .val (.long p2), .second, .val (.long p3), .second, .val (.long p4), .second, .val (.ref (w 0))] [])) _
  have f33 := (Fld.other W32 (Fld.other W29 (Fld.other W26 (Fld.other W23 (Fld.other W20 (Fld.other W17 Fw14 (Or.inr (slot_ne (Or.inr (hw _ (List.mem_of_getElem? (i := 25) rfl))) (Or.inr (hw _ (List.mem_of_getElem? (i := 27) rfl))) (by decide) (t := .boolean) (t' := (.object "java/lang/String")) (by decide) (by decide)))) (Or.inr (slot_ne (Or.inr (hw _ (List.mem_of_getElem? (i := 25) rfl))) (Or.inr (hw _ (List.mem_of_getElem? (i := 29) rfl))) (by decide) (t := .boolean) (t' := .long) (by decide) (by decide)))) (Or.inr (slot_ne (Or.inr (hw _ (List.mem_of_getElem? (i := 25) rfl))) (Or.inr (hw _ (List.mem_of_getElem? (i := 31) rfl))) (by decide) (t := .boolean) (t' := .long) (by decide) (by decide)))) (Or.inr (slot_ne (Or.inr (hw _ (List.mem_of_getElem? (i := 25) rfl))) (Or.inr (hw _ (List.mem_of_getElem? (i := 33) rfl))) (by decide) (t := .boolean) (t' := .long) (by decide) (by decide)))) (Or.inr (slot_ne (Or.inr (hw _ (List.mem_of_getElem? (i := 25) rfl))) (Or.inr (hw _ (List.mem_of_getElem? (i := 35) rfl))) (by decide) (t := .boolean) (t' := .long) (by decide) (by decide)))) (Or.inr (slot_ne (Or.inr (hw _ (List.mem_of_getElem? (i := 25) rfl))) (Or.inr (hw _ (List.mem_of_getElem? (i := 37) rfl))) (by decide) (t := .boolean) (t' := (.object "com/example/killdeer/killdeer/GadgetView$Obscured")) (by decide) (by decide))))
  have f34 := (Fld.other W32 (Fld.other W29 (Fld.other W26 (Fld.other W23 (Fld.other W20 Fw17 (Or.inr (slot_ne (Or.inr (hw _ (List.mem_of_getElem? (i := 27) rfl))) (Or.inr (hw _ (List.mem_of_getElem? (i := 29) rfl))) (by decide) (t := (.object "java/lang/String")) (t' := .long) (by decide) (by decide)))) (Or.inr (slot_ne (Or.inr (hw _ (List.mem_of_getElem? (i := 27) rfl))) (Or.inr (hw _ (List.mem_of_getElem? (i := 31) rfl))) (by decide) (t := (.object "java/lang/String")) (t' := .long) (by decide) (by decide)))) (Or.inr (slot_ne (Or.inr (hw _ (List.mem_of_getElem? (i := 27) rfl))) (Or.inr (hw _ (List.mem_of_getElem? (i := 33) rfl))) (by decide) (t := (.object "java/lang/String")) (t' := .long) (by decide) (by decide)))) (Or.inr (slot_ne (Or.inr (hw _ (List.mem_of_getElem? (i := 27) rfl))) (Or.inr (hw _ (List.mem_of_getElem? (i := 35) rfl))) (by decide) (t := (.object "java/lang/String")) (t' := .long) (by decide) (by decide)))) (Or.inr (slot_ne (Or.inr (hw _ (List.mem_of_getElem? (i := 27) rfl))) (Or.inr (hw _ (List.mem_of_getElem? (i := 37) rfl))) (by decide) (t := (.object "java/lang/String")) (t' := (.object "com/example/killdeer/killdeer/GadgetView$Obscured")) (by decide) (by decide))))
  have f35 := (Fld.other W32 (Fld.other W29 (Fld.other W26 (Fld.other W23 Fw20 (Or.inr (slot_ne (Or.inr (hw _ (List.mem_of_getElem? (i := 29) rfl))) (Or.inr (hw _ (List.mem_of_getElem? (i := 31) rfl))) (by decide) (t := .long) (t' := .long) (by decide) (by decide)))) (Or.inr (slot_ne (Or.inr (hw _ (List.mem_of_getElem? (i := 29) rfl))) (Or.inr (hw _ (List.mem_of_getElem? (i := 33) rfl))) (by decide) (t := .long) (t' := .long) (by decide) (by decide)))) (Or.inr (slot_ne (Or.inr (hw _ (List.mem_of_getElem? (i := 29) rfl))) (Or.inr (hw _ (List.mem_of_getElem? (i := 35) rfl))) (by decide) (t := .long) (t' := .long) (by decide) (by decide)))) (Or.inr (slot_ne (Or.inr (hw _ (List.mem_of_getElem? (i := 29) rfl))) (Or.inr (hw _ (List.mem_of_getElem? (i := 37) rfl))) (by decide) (t := .long) (t' := (.object "com/example/killdeer/killdeer/GadgetView$Obscured")) (by decide) (by decide))))
  have f36 := (Fld.other W32 (Fld.other W29 (Fld.other W26 Fw23 (Or.inr (slot_ne (Or.inr (hw _ (List.mem_of_getElem? (i := 31) rfl))) (Or.inr (hw _ (List.mem_of_getElem? (i := 33) rfl))) (by decide) (t := .long) (t' := .long) (by decide) (by decide)))) (Or.inr (slot_ne (Or.inr (hw _ (List.mem_of_getElem? (i := 31) rfl))) (Or.inr (hw _ (List.mem_of_getElem? (i := 35) rfl))) (by decide) (t := .long) (t' := .long) (by decide) (by decide)))) (Or.inr (slot_ne (Or.inr (hw _ (List.mem_of_getElem? (i := 31) rfl))) (Or.inr (hw _ (List.mem_of_getElem? (i := 37) rfl))) (by decide) (t := .long) (t' := (.object "com/example/killdeer/killdeer/GadgetView$Obscured")) (by decide) (by decide))))
  have f37 := (Fld.other W32 (Fld.other W29 Fw26 (Or.inr (slot_ne (Or.inr (hw _ (List.mem_of_getElem? (i := 33) rfl))) (Or.inr (hw _ (List.mem_of_getElem? (i := 35) rfl))) (by decide) (t := .long) (t' := .long) (by decide) (by decide)))) (Or.inr (slot_ne (Or.inr (hw _ (List.mem_of_getElem? (i := 33) rfl))) (Or.inr (hw _ (List.mem_of_getElem? (i := 37) rfl))) (by decide) (t := .long) (t' := (.object "com/example/killdeer/killdeer/GadgetView$Obscured")) (by decide) (by decide))))
  have f38 := (Fld.other W32 Fw29 (Or.inr (slot_ne (Or.inr (hw _ (List.mem_of_getElem? (i := 35) rfl))) (Or.inr (hw _ (List.mem_of_getElem? (i := 37) rfl))) (by decide) (t := .long) (t' := (.object "com/example/killdeer/killdeer/GadgetView$Obscured")) (by decide) (by decide))))
  obtain ⟨fs, hr, hrun, hended, hW, hsame⟩ := X32.leave (v := none) (fun _ => rfl)
  exact ⟨_, _, X32.returnOut hx Bd.returns (hb hby d2_43) hr, hrun, hended, _, _, rfl, (by rw [show (T32.setFrames fs).heap = h32 from e32]; exact ⟨rfl, N32, K32, f33, f34, f35, f36, f37, f38, Fw32⟩), ⟨_, rfl⟩, hW, hsame.mono (by decide) (by decide)⟩
def Q_r4_0 (wpx wpy wx wy ww wh : Int64) (h0 : Heap) (n0 : Nat) (v : Option Value) (h : Heap) (L : List Loc) : Prop := (v = some (.int 1) ∧ Fr n0 L ∧ h = h0 ∧ own_in wpx wpy wx wy ww wh) ∨ (v = some (.int 0) ∧ Fr n0 L ∧ h = h0 ∧ ¬ own_in wpx wpy wx wy ww wh)
set_option maxRecDepth 65536 in
set_option maxHeartbeats 40000000 in
theorem r4_0 (l : Launch) (Z : State) (a0 : Array Value) (hw : ∀ d ∈ tables_1, d.before a0 Z = true) (ws : List Jvm.Cond) (h0 : Heap) (n0 : Nat) (Z0 : n0 ≤ h0.size) (ob : Addr) (wpx wpy wx wy ww wh : Int64) (F_x : Fld Z h0 ob "com/example/killdeer/killdeer/GadgetView" "x" "J" (.long wx)) (F_y : Fld Z h0 ob "com/example/killdeer/killdeer/GadgetView" "y" "J" (.long wy)) (F_width : Fld Z h0 ob "com/example/killdeer/killdeer/GadgetView" "width" "J" (.long ww)) (F_height : Fld Z h0 ob "com/example/killdeer/killdeer/GadgetView" "height" "J" (.long wh)) :
    MetFree l (⟨"com/example/killdeer/killdeer/GadgetView", "contains", "(JJ)Z"⟩ : MethodName) (head1 (Jvm.Cond.code (⟨"com/example/killdeer/killdeer/GadgetView", "contains", "(JJ)Z"⟩ : MethodName) prog_16_method_3_code 5 (some .boolean) :: ws) ({ frames := 0, cells := 0, slots := 0, locals := 0 } : Room)) (fun a U => a = #[(.ref ob), (.long wpx), (.long wpy)] ∧ Z.Warmed39 U.vm ∧ U.heap = h0) (fun _ _ _ _ _ => True) (fun _ U o U' => ∃ v L, o = .returned v ∧ Q_r4_0 wpx wpy wx wy ww wh h0 n0 v U'.heap L ∧ FrameEnd U o U' L ({ frames := 0, cells := 0, slots := 0, locals := 0 } : Room).cells ({ frames := 0, cells := 0, slots := 0, locals := 0 } : Room).slots) := by
  refine MetFree.of_bodySF (plainFor_of_name pn1) hisR ?_
  intro p e s m args below meth c s₁ Bd hml0 hP hK
  obtain ⟨rfl, hZ, hh⟩ := hP
  have hx := Bd.exec
  have hby := Bd.bytes
  have hml : c.maxLocals = 5 := hml0
  have hown : s.vm.findClass "com/example/killdeer/killdeer/GadgetView" = some m.cls := findClass_of_methodNamed Bd.named
  have hnm := (name_of_methodNamed Bd.named Bd.method).1
  have X0 : Stand p l e ({ frames := 0, cells := 0, slots := 0, locals := 0 } : Room) s m #[(.ref ob), (.long wpx), (.long wpy)] below meth c s₁ [] 0 0 := Stand.of_body Bd
  have e0 : s₁.heap = h0 := by rw [← hh, Bd.state]; rfl
  have N0 := Fr.nil n0
  refine Goes.out (Goes.by (fun tz kz => castTop (ef4_RJJ m ob wpx wpy) kz) ?_)
  show Goes p e below (s₁.setTop (mkF m 0 #[.val (.ref ob), .val (.long wpx), .second, .val (.long wpy), .second] [])) _
  refine Goes.by (fun _ kz => XS.lloadN X0.here hx rfl (hb hby d4_0) rfl (XS.aloadN X0.here hx rfl (hb hby d4_1) rfl rfl kz)) ?_
  obtain ⟨T48, X48, e48, st48⟩ := getF X0 hx hZ hown (host := "") (Or.inl (hw _ (List.mem_of_getElem? (i := 28) rfl))) Via.refl e0 F_x (g := (mkF m 2 #[.val (.ref ob), .val (.long wpx), .second, .val (.long wpy), .second] [(.ref ob), (.long wpx)])) rfl rfl (hb hby d4_2)
  refine Goes.by st48 ?_
  refine Goes.by (fun _ kz => XS.lcmp X48.here hx rfl (hb hby d4_5) rfl kz) ?_
  show Goes p e below (T48.setTop (mkF m 6 #[.val (.ref ob), .val (.long wpx), .second, .val (.long wpy), .second] [(.int (lcmpW wpx wx))])) _
  by_cases hc49 : wpx < wx
  · refine Goes.by (fun _ kz => XS.ifYes X48.here hx rfl (pc0 := 6) (pc' := 50) rfl (hb hby d4_6) rfl ((if0 _ _).trans (tlt (own_lt hc49)).1) (by decide) (by decide) (XS.iconst X48.here hx rfl (hb hby d4_50) kz)) ?_
    show Goes p e below (T48.setTop (mkF m 51 #[.val (.ref ob), .val (.long wpx), .second, .val (.long wpy), .second] [(.int (0 : Int32))])) _
    obtain ⟨fs, hr, hrun, hended, hW, hsame⟩ := X48.leave (v := some (.int (0 : Int32))) (fun h => by rw [Bd.returns] at h; cases h)
    exact ⟨_, _, retN X48 hx (t := .boolean) Bd.returns (by simp) (hb hby d4_51) hr, hrun, hended, _, _, rfl, (Or.inr ⟨rfl, N0, e48, (by simp [own_in, hc49])⟩), ⟨_, rfl⟩, hW, hsame.mono (by decide) (by decide)⟩
  · refine Goes.by (fun _ kz => XS.ifNo X48.here hx rfl (hb hby d4_6) rfl ((if0 _ _).trans (flt (own_nlt hc49)).1) (XS.lloadN X48.here hx rfl (hb hby d4_9) rfl (XS.aloadN X48.here hx rfl (hb hby d4_10) rfl rfl kz))) ?_
    obtain ⟨T50, X50, e50, st50⟩ := getF X48 hx hZ hown (host := "") (Or.inl (hw _ (List.mem_of_getElem? (i := 28) rfl))) Via.refl e48 F_x (g := (mkF m 11 #[.val (.ref ob), .val (.long wpx), .second, .val (.long wpy), .second] [(.ref ob), (.long wpx)])) rfl rfl (hb hby d4_11)
    refine Goes.by st50 ?_
    refine Goes.by (fun _ kz => XS.lsub X50.here hx rfl (hb hby d4_14) rfl (XS.aloadN X50.here hx rfl (hb hby d4_15) rfl rfl kz)) ?_
    obtain ⟨T51, X51, e51, st51⟩ := getF X50 hx hZ hown (host := "") (Or.inl (hw _ (List.mem_of_getElem? (i := 32) rfl))) Via.refl e50 F_width (g := (mkF m 16 #[.val (.ref ob), .val (.long wpx), .second, .val (.long wpy), .second] [(.ref ob), (.long (wpx - wx))])) rfl rfl (hb hby d4_16)
    refine Goes.by st51 ?_
    refine Goes.by (fun _ kz => XS.lcmp X51.here hx rfl (hb hby d4_19) rfl kz) ?_
    show Goes p e below (T51.setTop (mkF m 20 #[.val (.ref ob), .val (.long wpx), .second, .val (.long wpy), .second] [(.int (lcmpW (wpx - wx) ww))])) _
    by_cases hc52 : (wpx - wx) < ww
    · refine Goes.by (fun _ kz => XS.ifNo X51.here hx rfl (hb hby d4_20) rfl ((if0 _ _).trans (tlt (own_lt hc52)).2.1) (XS.lloadN X51.here hx rfl (hb hby d4_23) rfl (XS.aloadN X51.here hx rfl (hb hby d4_24) rfl rfl kz))) ?_
      obtain ⟨T53, X53, e53, st53⟩ := getF X51 hx hZ hown (host := "") (Or.inl (hw _ (List.mem_of_getElem? (i := 30) rfl))) Via.refl e51 F_y (g := (mkF m 25 #[.val (.ref ob), .val (.long wpx), .second, .val (.long wpy), .second] [(.ref ob), (.long wpy)])) rfl rfl (hb hby d4_25)
      refine Goes.by st53 ?_
      refine Goes.by (fun _ kz => XS.lcmp X53.here hx rfl (hb hby d4_28) rfl kz) ?_
      show Goes p e below (T53.setTop (mkF m 29 #[.val (.ref ob), .val (.long wpx), .second, .val (.long wpy), .second] [(.int (lcmpW wpy wy))])) _
      by_cases hc54 : wpy < wy
      · refine Goes.by (fun _ kz => XS.ifYes X53.here hx rfl (pc0 := 29) (pc' := 50) rfl (hb hby d4_29) rfl ((if0 _ _).trans (tlt (own_lt hc54)).1) (by decide) (by decide) (XS.iconst X53.here hx rfl (hb hby d4_50) kz)) ?_
        show Goes p e below (T53.setTop (mkF m 51 #[.val (.ref ob), .val (.long wpx), .second, .val (.long wpy), .second] [(.int (0 : Int32))])) _
        obtain ⟨fs, hr, hrun, hended, hW, hsame⟩ := X53.leave (v := some (.int (0 : Int32))) (fun h => by rw [Bd.returns] at h; cases h)
        exact ⟨_, _, retN X53 hx (t := .boolean) Bd.returns (by simp) (hb hby d4_51) hr, hrun, hended, _, _, rfl, (Or.inr ⟨rfl, N0, e53, (by simp [own_in, hc49, hc52, hc54])⟩), ⟨_, rfl⟩, hW, hsame.mono (by decide) (by decide)⟩
      · refine Goes.by (fun _ kz => XS.ifNo X53.here hx rfl (hb hby d4_29) rfl ((if0 _ _).trans (flt (own_nlt hc54)).1) (XS.lloadN X53.here hx rfl (hb hby d4_32) rfl (XS.aloadN X53.here hx rfl (hb hby d4_33) rfl rfl kz))) ?_
        obtain ⟨T55, X55, e55, st55⟩ := getF X53 hx hZ hown (host := "") (Or.inl (hw _ (List.mem_of_getElem? (i := 30) rfl))) Via.refl e53 F_y (g := (mkF m 34 #[.val (.ref ob), .val (.long wpx), .second, .val (.long wpy), .second] [(.ref ob), (.long wpy)])) rfl rfl (hb hby d4_34)
        refine Goes.by st55 ?_
        refine Goes.by (fun _ kz => XS.lsub X55.here hx rfl (hb hby d4_37) rfl (XS.aloadN X55.here hx rfl (hb hby d4_38) rfl rfl kz)) ?_
        obtain ⟨T56, X56, e56, st56⟩ := getF X55 hx hZ hown (host := "") (Or.inl (hw _ (List.mem_of_getElem? (i := 34) rfl))) Via.refl e55 F_height (g := (mkF m 39 #[.val (.ref ob), .val (.long wpx), .second, .val (.long wpy), .second] [(.ref ob), (.long (wpy - wy))])) rfl rfl (hb hby d4_39)
        refine Goes.by st56 ?_
        refine Goes.by (fun _ kz => XS.lcmp X56.here hx rfl (hb hby d4_42) rfl kz) ?_
        show Goes p e below (T56.setTop (mkF m 43 #[.val (.ref ob), .val (.long wpx), .second, .val (.long wpy), .second] [(.int (lcmpW (wpy - wy) wh))])) _
        by_cases hc57 : (wpy - wy) < wh
        · refine Goes.by (fun _ kz => XS.ifNo X56.here hx rfl (hb hby d4_43) rfl ((if0 _ _).trans (tlt (own_lt hc57)).2.1) (XS.iconst X56.here hx rfl (hb hby d4_46) (XS.goto X56.here hx rfl (pc0 := 47) (pc' := 51) rfl (hb hby d4_47) (by decide) (by decide) kz))) ?_
          show Goes p e below (T56.setTop (mkF m 51 #[.val (.ref ob), .val (.long wpx), .second, .val (.long wpy), .second] [(.int (1 : Int32))])) _
          obtain ⟨fs, hr, hrun, hended, hW, hsame⟩ := X56.leave (v := some (.int (1 : Int32))) (fun h => by rw [Bd.returns] at h; cases h)
          exact ⟨_, _, retN X56 hx (t := .boolean) Bd.returns (by simp) (hb hby d4_51) hr, hrun, hended, _, _, rfl, (Or.inl ⟨rfl, N0, e56, (by simp [own_in, hc49, hc52, hc54, hc57])⟩), ⟨_, rfl⟩, hW, hsame.mono (by decide) (by decide)⟩
        · refine Goes.by (fun _ kz => XS.ifYes X56.here hx rfl (pc0 := 43) (pc' := 50) rfl (hb hby d4_43) rfl ((if0 _ _).trans (flt (own_nlt hc57)).2.1) (by decide) (by decide) (XS.iconst X56.here hx rfl (hb hby d4_50) kz)) ?_
          show Goes p e below (T56.setTop (mkF m 51 #[.val (.ref ob), .val (.long wpx), .second, .val (.long wpy), .second] [(.int (0 : Int32))])) _
          obtain ⟨fs, hr, hrun, hended, hW, hsame⟩ := X56.leave (v := some (.int (0 : Int32))) (fun h => by rw [Bd.returns] at h; cases h)
          exact ⟨_, _, retN X56 hx (t := .boolean) Bd.returns (by simp) (hb hby d4_51) hr, hrun, hended, _, _, rfl, (Or.inr ⟨rfl, N0, e56, (by simp [own_in, hc49, hc52, hc54, hc57])⟩), ⟨_, rfl⟩, hW, hsame.mono (by decide) (by decide)⟩
    · refine Goes.by (fun _ kz => XS.ifYes X51.here hx rfl (pc0 := 20) (pc' := 50) rfl (hb hby d4_20) rfl ((if0 _ _).trans (flt (own_nlt hc52)).2.1) (by decide) (by decide) (XS.iconst X51.here hx rfl (hb hby d4_50) kz)) ?_
      show Goes p e below (T51.setTop (mkF m 51 #[.val (.ref ob), .val (.long wpx), .second, .val (.long wpy), .second] [(.int (0 : Int32))])) _
      obtain ⟨fs, hr, hrun, hended, hW, hsame⟩ := X51.leave (v := some (.int (0 : Int32))) (fun h => by rw [Bd.returns] at h; cases h)
      exact ⟨_, _, retN X51 hx (t := .boolean) Bd.returns (by simp) (hb hby d4_51) hr, hrun, hended, _, _, rfl, (Or.inr ⟨rfl, N0, e51, (by simp [own_in, hc49, hc52])⟩), ⟨_, rfl⟩, hW, hsame.mono (by decide) (by decide)⟩
set_option maxRecDepth 65536 in
set_option maxHeartbeats 40000000 in
theorem rm0 (l : Launch) (Z : State) (a0 : Array Value) (hw : ∀ d ∈ tables_1, d.before a0 Z = true) (ws : List Jvm.Cond) (h0 : Heap) (n0 : Nat) (Z0 : n0 ≤ h0.size) (p1 : Int64) (p2 : Int64) (p3 : Int64) (p4 : Int64) (p5 : Int64) (p6 : Int64) (w : Nat → Addr) (P : Pins Z h0 w) :
    MetFree l x (head1 (Jvm.Cond.code x code maxLocals ret :: ws) room_1) (fun a U => a = #[(.long p1), (.long p2), (.long p3), (.long p4), (.long p5), (.long p6)] ∧ Z.Warmed39 U.vm ∧ U.heap = h0) (fun _ _ _ _ _ => True) (fun _ U o U' => ∃ v L, o = .returned v ∧ QL n0 v U'.heap L ∧ ReturnedEndW U o U' L 3 11) := by
  refine MetFree.of_bodySF (plainFor_of_name pn0) hisR ?_
  intro p e s m args below meth c s₁ Bd hml0 hP hK
  obtain ⟨rfl, hZ, hh⟩ := hP
  have hx := Bd.exec
  have hby := Bd.bytes
  have hml : c.maxLocals = 21 := hml0
  have hown : s.vm.findClass "com/example/killdeer/killdeer/GadgetViewContainsPinLaw" = some m.cls := findClass_of_methodNamed Bd.named
  have hnm := (name_of_methodNamed Bd.named Bd.method).1
  have X0 : Stand p l e room_1 s m #[(.long p1), (.long p2), (.long p3), (.long p4), (.long p5), (.long p6)] below meth c s₁ [] 0 0 := Stand.of_body Bd
  have e0 : s₁.heap = h0 := by rw [← hh, Bd.state]; rfl
  have N0 := Fr.nil n0
  refine Goes.out (Goes.by (fun tz kz => castTop (ef0_JJJJJJ m p1 p2 p3 p4 p5 p6) kz) ?_)
  show Goes p e below (s₁.setTop (mkF m 0 #[.val (.long p1), .second, .val (.long p2), .second, .val (.long p3), .second, .val (.long p4), .second, .val (.long p5), .second, .val (.long p6), .second, .unset, .unset, .unset, .unset, .unset, .unset, .unset, .unset, .unset] [])) _
  refine Goes.by (fun _ kz => XS.lloadN X0.here hx rfl (hb hby at_0) rfl (XS.lload X0.here hx rfl (hb hby at_1) rfl (XS.ladd X0.here hx rfl (hb hby at_3) rfl kz))) ?_
  show Goes p e below (s₁.setTop (mkF m 4 #[.val (.long p1), .second, .val (.long p2), .second, .val (.long p3), .second, .val (.long p4), .second, .val (.long p5), .second, .val (.long p6), .second, .unset, .unset, .unset, .unset, .unset, .unset, .unset, .unset, .unset] [(.long (p1 + p5))])) _
  refine Goes.by (fun _ kz => XS.lstore X0.here hx rfl (hb hby at_4) rfl (l' := #[.val (.long p1), .second, .val (.long p2), .second, .val (.long p3), .second, .val (.long p4), .second, .val (.long p5), .second, .val (.long p6), .second, .val (.long (p1 + p5)), .second, .unset, .unset, .unset, .unset, .unset, .unset, .unset]) rfl (XS.lloadN X0.here hx rfl (hb hby at_6) rfl (XS.lload X0.here hx rfl (hb hby at_7) rfl kz))) ?_
  show Goes p e below (s₁.setTop (mkF m 9 #[.val (.long p1), .second, .val (.long p2), .second, .val (.long p3), .second, .val (.long p4), .second, .val (.long p5), .second, .val (.long p6), .second, .val (.long (p1 + p5)), .second, .unset, .unset, .unset, .unset, .unset, .unset, .unset] [(.long p6), (.long p2)])) _
  refine Goes.by (fun _ kz => XS.ladd X0.here hx rfl (hb hby at_9) rfl (XS.lstore X0.here hx rfl (hb hby at_10) rfl (l' := #[.val (.long p1), .second, .val (.long p2), .second, .val (.long p3), .second, .val (.long p4), .second, .val (.long p5), .second, .val (.long p6), .second, .val (.long (p1 + p5)), .second, .val (.long (p2 + p6)), .second, .unset, .unset, .unset, .unset, .unset]) rfl (XS.lloadN X0.here hx rfl (hb hby at_12) rfl kz))) ?_
  show Goes p e below (s₁.setTop (mkF m 13 #[.val (.long p1), .second, .val (.long p2), .second, .val (.long p3), .second, .val (.long p4), .second, .val (.long p5), .second, .val (.long p6), .second, .val (.long (p1 + p5)), .second, .val (.long (p2 + p6)), .second, .unset, .unset, .unset, .unset, .unset] [(.long p1)])) _
  refine Goes.by (fun _ kz => XS.lload X0.here hx rfl (hb hby at_13) rfl (XS.lload X0.here hx rfl (hb hby at_15) rfl kz)) ?_
  obtain ⟨_, _, ⟨T4, L4, k4, n4⟩, -, X4, ⟨Lc4, hQ4, l4, y4, z4⟩, st4⟩ := Jvm.LawKit.callS X0 hx (y := (⟨"com/example/killdeer/killdeer/GadgetViewContainsPinLaw", "wraps", "(JJJ)Z"⟩ : MethodName)) hown (mvT hZ (hw _ (List.mem_of_getElem? (i := 0) rfl))) (mvT hZ (hw _ (List.mem_of_getElem? (i := 1) rfl))) (mvT hZ (hw _ (List.mem_of_getElem? (i := 2) rfl))) (mvT hZ (hw _ (List.mem_of_getElem? (i := 3) rfl))) (by decide) (backOf (W := 0) (r1_0 l Z a0 hw [] h0 n0 Z0 p1 p5 (p1 + p5)) hZ (hw _ (List.mem_of_getElem? (i := 3) rfl)) (hw _ (List.mem_of_getElem? (i := 2) rfl)) (by decide) (by decide)) (g := (mkF m 17 #[.val (.long p1), .second, .val (.long p2), .second, .val (.long p3), .second, .val (.long p4), .second, .val (.long p5), .second, .val (.long p6), .second, .val (.long (p1 + p5)), .second, .val (.long (p2 + p6)), .second, .unset, .unset, .unset, .unset, .unset] [(.long (p1 + p5)), (.long p5), (.long p1)])) rfl (by rw [hml]; rfl) (argsL := [(.long p1), (.long p5), (.long (p1 + p5))]) (rest := []) (lenOf pd0 rfl) rfl (by show 2 * 0 + _ ≤ _; exact Nat.le_of_eq rfl) (hb hby at_17) (fun _ _ => ⟨rfl, e0, (by decide : 0 + 0 ≤ _), (by decide : 0 + 0 ≤ _)⟩)
  dsimp only [Pt.U, Pt.locs, Pt.cells, Pt.slots] at X4 l4 y4 z4 st4 hQ4
  subst l4 y4 z4
  rcases hQ4 with hQ4 | hQ4
  · obtain ⟨rfl, Nq4, e4, hp4⟩ := hQ4
    have N4 := Fr.app N0 Nq4
    refine Goes.by st4 ?_
    refine Goes.by (fun _ kz => XS.ifYes X4.here hx rfl (pc0 := 20) (pc' := 34) rfl (hb hby at_20) rfl ((if0 _ _).trans (feq (by decide : ¬ ((1 : Int32) = (0 : Int32)))).2) (by decide) (by decide) (XS.iconst X4.here hx rfl (hb hby at_34) kz)) ?_
    show Goes p e below (T4.setTop (mkF m 35 #[.val (.long p1), .second, .val (.long p2), .second, .val (.long p3), .second, .val (.long p4), .second, .val (.long p5), .second, .val (.long p6), .second, .val (.long (p1 + p5)), .second, .val (.long (p2 + p6)), .second, .unset, .unset, .unset, .unset, .unset] [(.int (1 : Int32))])) _
    obtain ⟨fs, hr, hrun, hended, hW, hsame⟩ := X4.leave (v := some (.int (1 : Int32))) (fun h => by rw [Bd.returns] at h; cases h)
    exact ⟨_, _, retN X4 hx (t := .boolean) Bd.returns (by simp) (hb hby at_35) hr, hrun, hended, _, _, rfl, ⟨rfl, N4⟩, ReturnedEndW.of_narrow ⟨_, rfl⟩ hW (hsame.mono (by decide) (by decide))⟩
  · obtain ⟨rfl, Nq4, e4, hp4⟩ := hQ4
    have N4 := Fr.app N0 Nq4
    refine Goes.by st4 ?_
    refine Goes.by (fun _ kz => XS.ifNo X4.here hx rfl (hb hby at_20) rfl ((if0 _ _).trans (teq (by decide : (0 : Int32) = (0 : Int32))).2) (XS.lloadN X4.here hx rfl (hb hby at_23) rfl (XS.lload X4.here hx rfl (hb hby at_24) rfl kz))) ?_
    show Goes p e below (T4.setTop (mkF m 26 #[.val (.long p1), .second, .val (.long p2), .second, .val (.long p3), .second, .val (.long p4), .second, .val (.long p5), .second, .val (.long p6), .second, .val (.long (p1 + p5)), .second, .val (.long (p2 + p6)), .second, .unset, .unset, .unset, .unset, .unset] [(.long p6), (.long p2)])) _
    refine Goes.by (fun _ kz => XS.lload X4.here hx rfl (hb hby at_26) rfl kz) ?_
    obtain ⟨_, _, ⟨T5, L5, k5, n5⟩, -, X5, ⟨Lc5, hQ5, l5, y5, z5⟩, st5⟩ := Jvm.LawKit.callS X4 hx (y := (⟨"com/example/killdeer/killdeer/GadgetViewContainsPinLaw", "wraps", "(JJJ)Z"⟩ : MethodName)) hown (mvT hZ (hw _ (List.mem_of_getElem? (i := 0) rfl))) (mvT hZ (hw _ (List.mem_of_getElem? (i := 1) rfl))) (mvT hZ (hw _ (List.mem_of_getElem? (i := 2) rfl))) (mvT hZ (hw _ (List.mem_of_getElem? (i := 3) rfl))) (by decide) (backOf (W := 0) (r1_0 l Z a0 hw [] h0 n0 Z0 p2 p6 (p2 + p6)) hZ (hw _ (List.mem_of_getElem? (i := 3) rfl)) (hw _ (List.mem_of_getElem? (i := 2) rfl)) (by decide) (by decide)) (g := (mkF m 28 #[.val (.long p1), .second, .val (.long p2), .second, .val (.long p3), .second, .val (.long p4), .second, .val (.long p5), .second, .val (.long p6), .second, .val (.long (p1 + p5)), .second, .val (.long (p2 + p6)), .second, .unset, .unset, .unset, .unset, .unset] [(.long (p2 + p6)), (.long p6), (.long p2)])) rfl (by rw [hml]; rfl) (argsL := [(.long p2), (.long p6), (.long (p2 + p6))]) (rest := []) (lenOf pd0 rfl) rfl (by show 2 * 0 + _ ≤ _; exact Nat.le_of_eq rfl) (hb hby at_28) (fun _ _ => ⟨rfl, e4, (by decide : 0 + 0 ≤ _), (by decide : 0 + 0 ≤ _)⟩)
    dsimp only [Pt.U, Pt.locs, Pt.cells, Pt.slots] at X5 l5 y5 z5 st5 hQ5
    subst l5 y5 z5
    rcases hQ5 with hQ5 | hQ5
    · obtain ⟨rfl, Nq5, e5, hp5⟩ := hQ5
      have N5 := Fr.app N4 Nq5
      refine Goes.by st5 ?_
      refine Goes.by (fun _ kz => XS.ifNo X5.here hx rfl (hb hby at_31) rfl ((if0 _ _).trans (feq (by decide : ¬ ((1 : Int32) = (0 : Int32)))).1) (XS.iconst X5.here hx rfl (hb hby at_34) kz)) ?_
      show Goes p e below (T5.setTop (mkF m 35 #[.val (.long p1), .second, .val (.long p2), .second, .val (.long p3), .second, .val (.long p4), .second, .val (.long p5), .second, .val (.long p6), .second, .val (.long (p1 + p5)), .second, .val (.long (p2 + p6)), .second, .unset, .unset, .unset, .unset, .unset] [(.int (1 : Int32))])) _
      obtain ⟨fs, hr, hrun, hended, hW, hsame⟩ := X5.leave (v := some (.int (1 : Int32))) (fun h => by rw [Bd.returns] at h; cases h)
      exact ⟨_, _, retN X5 hx (t := .boolean) Bd.returns (by simp) (hb hby at_35) hr, hrun, hended, _, _, rfl, ⟨rfl, N5⟩, ReturnedEndW.of_narrow ⟨_, rfl⟩ hW (hsame.mono (by decide) (by decide))⟩
    · obtain ⟨rfl, Nq5, e5, hp5⟩ := hQ5
      have N5 := Fr.app N4 Nq5
      refine Goes.by st5 ?_
      refine Goes.by (fun _ kz => XS.ifYes X5.here hx rfl (pc0 := 31) (pc' := 36) rfl (hb hby at_31) rfl ((if0 _ _).trans (teq (by decide : (0 : Int32) = (0 : Int32))).1) (by decide) (by decide) kz) ?_
      obtain ⟨T6, h6, X6, e6, E6, A6, D6, -, st6⟩ := newO X5 hx hZ hown (hw _ (List.mem_of_getElem? (i := 4) rfl)) (hw _ (List.mem_of_getElem? (i := 5) rfl)) (hw _ (List.mem_of_getElem? (i := 6) rfl)) e5 (g := (mkF m 36 #[.val (.long p1), .second, .val (.long p2), .second, .val (.long p3), .second, .val (.long p4), .second, .val (.long p5), .second, .val (.long p6), .second, .val (.long (p1 + p5)), .second, .val (.long (p2 + p6)), .second, .unset, .unset, .unset, .unset, .unset] [])) rfl (hb hby at_36) (by decide) (by decide)
      obtain ⟨b6, g6⟩ : ∃ z, z = h0.size := ⟨_, rfl⟩
      rw [← g6] at A6 D6 st6
      have ne6__w_0_ : (w 0) ≠ b6 := Nat.ne_of_lt (Nat.lt_of_lt_of_le P.2.lt (Nat.le_of_eq g6.symm))
      have g_b6 : n0 ≤ b6 := Nat.le_trans Z0 (Nat.le_of_eq g6.symm)
      have sz_b6 : h0.size ≤ b6 := Nat.le_of_eq g6.symm
      have F6_visible : Fld Z h6 b6 "com/example/killdeer/killdeer/GadgetView" "visible" "Z" (.int (0 : Int32)) := D6 (Or.inr (hw _ (List.mem_of_getElem? (i := 25) rfl))) (ty := .boolean) (by decide)
      have F6_appearance : Fld Z h6 b6 "com/example/killdeer/killdeer/GadgetView" "appearance" "Ljava/lang/String;" .null := D6 (Or.inr (hw _ (List.mem_of_getElem? (i := 27) rfl))) (ty := (.object "java/lang/String")) (by decide)
      have F6_x : Fld Z h6 b6 "com/example/killdeer/killdeer/GadgetView" "x" "J" (.long (0 : Int64)) := D6 (Or.inr (hw _ (List.mem_of_getElem? (i := 29) rfl))) (ty := .long) (by decide)
      have F6_y : Fld Z h6 b6 "com/example/killdeer/killdeer/GadgetView" "y" "J" (.long (0 : Int64)) := D6 (Or.inr (hw _ (List.mem_of_getElem? (i := 31) rfl))) (ty := .long) (by decide)
      have F6_width : Fld Z h6 b6 "com/example/killdeer/killdeer/GadgetView" "width" "J" (.long (0 : Int64)) := D6 (Or.inr (hw _ (List.mem_of_getElem? (i := 33) rfl))) (ty := .long) (by decide)
      have F6_height : Fld Z h6 b6 "com/example/killdeer/killdeer/GadgetView" "height" "J" (.long (0 : Int64)) := D6 (Or.inr (hw _ (List.mem_of_getElem? (i := 35) rfl))) (ty := .long) (by decide)
      have F6_obscured : Fld Z h6 b6 "com/example/killdeer/killdeer/GadgetView" "obscured" "Lcom/example/killdeer/killdeer/GadgetView$Obscured;" .null := D6 (Or.inr (hw _ (List.mem_of_getElem? (i := 37) rfl))) (ty := (.object "com/example/killdeer/killdeer/GadgetView$Obscured")) (by decide)
      have K6 : Keep h0 h6 [] := Keep.ext (Keep.refl h0 []) E6
      have Z6 : n0 ≤ h6.size := Nat.le_trans Z0 E6.1
      refine Goes.by st6 ?_
      refine Goes.by (fun _ kz => XS.dup X6.here hx rfl (hb hby at_39) rfl rfl (XS.iconst X6.here hx rfl (hb hby at_40) kz)) ?_
      have f8 := (P.2.ext E6)
      have wS7 : ∀ a ∈ Bundle.stringAtoms, a.before a0 Z = true := fun d hd => hw d ((by decide +kernel : ∀ d ∈ Bundle.stringAtoms, d ∈ tables_1) d hd)
      obtain ⟨a7, T7, h7, k7, X7, e7, E7, hS7, hk7, hZ, hown, st7⟩ := ldcS (s := s) (vm0 := s.vm) X6 hx hZ hown (hw _ (List.mem_of_getElem? (i := 7) rfl)) wS7 e6 (k0 := 0) ((State.WarmedH.refl s).since 0) (Nat.zero_le _) (g := (mkF m 41 #[.val (.long p1), .second, .val (.long p2), .second, .val (.long p3), .second, .val (.long p4), .second, .val (.long p5), .second, .val (.long p6), .second, .val (.long (p1 + p5)), .second, .val (.long (p2 + p6)), .second, .unset, .unset, .unset, .unset, .unset] [(.int (1 : Int32)), (.ref b6), (.ref b6)])) rfl (hb hby at_41) (n := 0) (by decide) (by decide) (by decide) (by decide)
      have K7 : Keep h0 h7 [] := Keep.ext K6 E7
      have Z7 : n0 ≤ h7.size := Nat.le_trans Z6 E7.1
      refine Goes.by st7 ?_
      refine Goes.by (fun _ kz => XS.lloadN X7.here hx rfl (hb hby at_43) rfl (XS.lloadN X7.here hx rfl (hb hby at_44) rfl (XS.lload X7.here hx rfl (hb hby at_45) rfl kz))) ?_
      show Goes p e below (T7.setTop (mkF m 47 #[.val (.long p1), .second, .val (.long p2), .second, .val (.long p3), .second, .val (.long p4), .second, .val (.long p5), .second, .val (.long p6), .second, .val (.long (p1 + p5)), .second, .val (.long (p2 + p6)), .second, .unset, .unset, .unset, .unset, .unset] [(.long p3), (.long p2), (.long p1), (.ref a7), (.int (1 : Int32)), (.ref b6), (.ref b6)])) _
      refine Goes.by (fun _ kz => XS.lload X7.here hx rfl (hb hby at_47) rfl kz) ?_
      have f9 := ((P.1.ext E6).ext E7)
      obtain ⟨T10, X10, e10, st10⟩ := getS2 X7 hx hZ hown (host := "") (Or.inl (hw _ (List.mem_of_getElem? (i := 15) rfl))) Via.refl e7 f9 (g := (mkF m 49 #[.val (.long p1), .second, .val (.long p2), .second, .val (.long p3), .second, .val (.long p4), .second, .val (.long p5), .second, .val (.long p6), .second, .val (.long (p1 + p5)), .second, .val (.long (p2 + p6)), .second, .unset, .unset, .unset, .unset, .unset] [(.long p4), (.long p3), (.long p2), (.long p1), (.ref a7), (.int (1 : Int32)), (.ref b6), (.ref b6)])) rfl (hb hby at_49)
      refine Goes.by st10 ?_
      have f39 := (A6.ext E7)
      have f40 := (F6_visible.ext E7)
      have f41 := (F6_appearance.ext E7)
      have f42 := (F6_x.ext E7)
      have f43 := (F6_y.ext E7)
      have f44 := (F6_width.ext E7)
      have f45 := (F6_height.ext E7)
      have f46 := (F6_obscured.ext E7)
      obtain ⟨_, _, ⟨T47, L47, k47, n47⟩, -, X47, ⟨Lc47, hQ47, l47, y47, z47⟩, st47⟩ := X10.specialBack hx (y := (⟨"com/example/killdeer/killdeer/GadgetView", "<init>", "(ZLjava/lang/String;JJJJLcom/example/killdeer/killdeer/GadgetView$Obscured;)V"⟩ : MethodName)) rfl hown (mvT hZ (hw _ (List.mem_of_getElem? (i := 18) rfl))) (mvT hZ (hw _ (List.mem_of_getElem? (i := 19) rfl))) (mvT hZ (hw _ (List.mem_of_getElem? (i := 20) rfl))) (by decide) (backOf (W := 1) (r2_10 l Z a0 hw [] h7 n0 Z7 p1 p2 p3 p4 w b6 a7 f39 f40 f41 f42 f43 f44 f45 f46 g_b6) hZ (hw _ (List.mem_of_getElem? (i := 20) rfl)) (hw _ (List.mem_of_getElem? (i := 6) rfl)) (by decide) (by decide)) (g := (mkF m 52 #[.val (.long p1), .second, .val (.long p2), .second, .val (.long p3), .second, .val (.long p4), .second, .val (.long p5), .second, .val (.long p6), .second, .val (.long (p1 + p5)), .second, .val (.long (p2 + p6)), .second, .unset, .unset, .unset, .unset, .unset] [(.ref (w 0)), (.long p4), (.long p3), (.long p2), (.long p1), (.ref a7), (.int (1 : Int32)), (.ref b6), (.ref b6)])) rfl (by rw [hml]; rfl) (Steps.refl _) (a := b6) (argsL := [(.int (1 : Int32)), (.ref a7), (.long p1), (.long p2), (.long p3), (.long p4), (.ref (w 0))]) (rest := [(.ref b6)]) (lenOf pd1 rfl) rfl (by show 2 * 0 + _ ≤ _; exact Nat.le_of_eq rfl) (hb hby at_52) (fun _ _ => ⟨rfl, e10, (by decide : 3 + 0 ≤ _), (by decide : 11 + 0 ≤ _)⟩)
      dsimp only [Pt.U, Pt.locs, Pt.cells, Pt.slots] at X47 l47 y47 z47 st47 hQ47
      subst l47 y47 z47
      obtain ⟨rfl, Nq47, Kq47, fq47_0, fq47_1, fq47_2, fq47_3, fq47_4, fq47_5, fq47_6⟩ := hQ47
      have K47 : Keep h0 T47.heap [] := Keep.trans K7 Kq47 (allS (Or.inr sz_b6) all0)
      have Z47 : n0 ≤ T47.heap.size := Nat.le_trans Z7 Kq47.1
      have hk47 := Nat.le_trans hk7 Kq47.1
      have N47 := Fr.app N5 Nq47
      refine Goes.tr st47 ?_
      refine Goes.by (fun _ kz => XS.astore X47.here hx rfl (hb hby at_55) rfl rfl (l' := #[.val (.long p1), .second, .val (.long p2), .second, .val (.long p3), .second, .val (.long p4), .second, .val (.long p5), .second, .val (.long p6), .second, .val (.long (p1 + p5)), .second, .val (.long (p2 + p6)), .second, .val (.ref b6), .unset, .unset, .unset, .unset]) rfl (XS.aload X47.here hx rfl (hb hby at_57) rfl rfl (XS.lload X47.here hx rfl (hb hby at_59) rfl kz))) ?_
      show Goes p e below (T47.setTop (mkF m 61 #[.val (.long p1), .second, .val (.long p2), .second, .val (.long p3), .second, .val (.long p4), .second, .val (.long p5), .second, .val (.long p6), .second, .val (.long (p1 + p5)), .second, .val (.long (p2 + p6)), .second, .val (.ref b6), .unset, .unset, .unset, .unset] [(.long (p1 + p5)), (.ref b6)])) _
      refine Goes.by (fun _ kz => XS.lload X47.here hx rfl (hb hby at_61) rfl kz) ?_
      have f59 := (f39.keep Kq47)
      obtain ⟨cq58, kq58, q58a, q58b, q58c⟩ := isOf hZ rfl f59
      obtain ⟨_, _, ⟨T58, L58, k58, n58⟩, -, X58, ⟨Lc58, hQ58, l58, y58, z58⟩, st58⟩ := X47.virtualBack hx (y := (⟨"com/example/killdeer/killdeer/GadgetView", "contains", "(JJ)Z"⟩ : MethodName)) (z := (⟨"com/example/killdeer/killdeer/GadgetView", "contains", "(JJ)Z"⟩ : MethodName)) hown (mvT hZ (hw _ (List.mem_of_getElem? (i := 38) rfl))) (mvT hZ (hw _ (List.mem_of_getElem? (i := 39) rfl))) (notFace_of_selects (args := #[]) (mvT hZ (hw _ (List.mem_of_getElem? (i := 41) rfl)))) (mvT hZ (hw _ (List.mem_of_getElem? (i := 41) rfl))) (mvT hZ (hw _ (List.mem_of_getElem? (i := 40) rfl))) (by decide) (backOf (W := 0) (r4_0 l Z a0 hw [] T47.heap n0 Z47 b6 (p1 + p5) (p2 + p6) p1 p2 p3 p4 fq47_2 fq47_3 fq47_4 fq47_5) hZ (hw _ (List.mem_of_getElem? (i := 42) rfl)) (hw _ (List.mem_of_getElem? (i := 6) rfl)) (by decide) (by decide)) q58a q58c (g := (mkF m 63 #[.val (.long p1), .second, .val (.long p2), .second, .val (.long p3), .second, .val (.long p4), .second, .val (.long p5), .second, .val (.long p6), .second, .val (.long (p1 + p5)), .second, .val (.long (p2 + p6)), .second, .val (.ref b6), .unset, .unset, .unset, .unset] [(.long (p2 + p6)), (.long (p1 + p5)), (.ref b6)])) rfl (by rw [hml]; rfl) (Steps.refl _) (argsL := [(.long (p1 + p5)), (.long (p2 + p6))]) (rest := []) (lenOf pd2 rfl) rfl (by show 2 * 0 + _ ≤ _; exact Nat.le_of_eq rfl) (hb hby at_63) (fun _ _ => ⟨rfl, rfl, (by decide : 3 + 0 ≤ _), (by decide : 11 + 0 ≤ _)⟩)
      dsimp only [Pt.U, Pt.locs, Pt.cells, Pt.slots] at X58 l58 y58 z58 st58 hQ58
      subst l58 y58 z58
      rcases hQ58 with hQ58 | hQ58
      · obtain ⟨rfl, Nq58, e58, hp58⟩ := hQ58
        have N58 := Fr.app N47 Nq58
        refine Goes.tr st58 ?_
        refine Goes.by (fun _ kz => XS.istore X58.here hx rfl (hb hby at_66) rfl (l' := #[.val (.long p1), .second, .val (.long p2), .second, .val (.long p3), .second, .val (.long p4), .second, .val (.long p5), .second, .val (.long p6), .second, .val (.long (p1 + p5)), .second, .val (.long (p2 + p6)), .second, .val (.ref b6), .val (.int (1 : Int32)), .unset, .unset, .unset]) rfl (XS.lload X58.here hx rfl (hb hby at_68) rfl (XS.lconst X58.here hx rfl (hb hby at_70) kz))) ?_
        show Goes p e below (T58.setTop (mkF m 71 #[.val (.long p1), .second, .val (.long p2), .second, .val (.long p3), .second, .val (.long p4), .second, .val (.long p5), .second, .val (.long p6), .second, .val (.long (p1 + p5)), .second, .val (.long (p2 + p6)), .second, .val (.ref b6), .val (.int (1 : Int32)), .unset, .unset, .unset] [(.long (0 : Int64)), (.long p5)])) _
        refine Goes.by (fun _ kz => XS.lcmp X58.here hx rfl (hb hby at_71) rfl kz) ?_
        show Goes p e below (T58.setTop (mkF m 72 #[.val (.long p1), .second, .val (.long p2), .second, .val (.long p3), .second, .val (.long p4), .second, .val (.long p5), .second, .val (.long p6), .second, .val (.long (p1 + p5)), .second, .val (.long (p2 + p6)), .second, .val (.ref b6), .val (.int (1 : Int32)), .unset, .unset, .unset] [(.int (lcmpW p5 (0 : Int64)))])) _
        by_cases hc60 : p5 < (0 : Int64)
        · refine Goes.by (fun _ kz => XS.ifYes X58.here hx rfl (pc0 := 72) (pc' := 87) rfl (hb hby at_72) rfl ((if0 _ _).trans (tlt (own_lt hc60)).1) (by decide) (by decide) (XS.iconst X58.here hx rfl (hb hby at_87) (XS.istore X58.here hx rfl (hb hby at_88) rfl (l' := #[.val (.long p1), .second, .val (.long p2), .second, .val (.long p3), .second, .val (.long p4), .second, .val (.long p5), .second, .val (.long p6), .second, .val (.long (p1 + p5)), .second, .val (.long (p2 + p6)), .second, .val (.ref b6), .val (.int (1 : Int32)), .val (.int (0 : Int32)), .unset, .unset]) rfl kz))) ?_
          show Goes p e below (T58.setTop (mkF m 90 #[.val (.long p1), .second, .val (.long p2), .second, .val (.long p3), .second, .val (.long p4), .second, .val (.long p5), .second, .val (.long p6), .second, .val (.long (p1 + p5)), .second, .val (.long (p2 + p6)), .second, .val (.ref b6), .val (.int (1 : Int32)), .val (.int (0 : Int32)), .unset, .unset] [])) _
          refine Goes.by (fun _ kz => XS.lload X58.here hx rfl (hb hby at_90) rfl (XS.lconst X58.here hx rfl (hb hby at_92) (XS.lcmp X58.here hx rfl (hb hby at_93) rfl kz))) ?_
          show Goes p e below (T58.setTop (mkF m 94 #[.val (.long p1), .second, .val (.long p2), .second, .val (.long p3), .second, .val (.long p4), .second, .val (.long p5), .second, .val (.long p6), .second, .val (.long (p1 + p5)), .second, .val (.long (p2 + p6)), .second, .val (.ref b6), .val (.int (1 : Int32)), .val (.int (0 : Int32)), .unset, .unset] [(.int (lcmpW p6 (0 : Int64)))])) _
          by_cases hc61 : p6 < (0 : Int64)
          · refine Goes.by (fun _ kz => XS.ifYes X58.here hx rfl (pc0 := 94) (pc' := 109) rfl (hb hby at_94) rfl ((if0 _ _).trans (tlt (own_lt hc61)).1) (by decide) (by decide) (XS.iconst X58.here hx rfl (hb hby at_109) (XS.istore X58.here hx rfl (hb hby at_110) rfl (l' := #[.val (.long p1), .second, .val (.long p2), .second, .val (.long p3), .second, .val (.long p4), .second, .val (.long p5), .second, .val (.long p6), .second, .val (.long (p1 + p5)), .second, .val (.long (p2 + p6)), .second, .val (.ref b6), .val (.int (1 : Int32)), .val (.int (0 : Int32)), .val (.int (0 : Int32)), .unset]) rfl kz))) ?_
            show Goes p e below (T58.setTop (mkF m 112 #[.val (.long p1), .second, .val (.long p2), .second, .val (.long p3), .second, .val (.long p4), .second, .val (.long p5), .second, .val (.long p6), .second, .val (.long (p1 + p5)), .second, .val (.long (p2 + p6)), .second, .val (.ref b6), .val (.int (1 : Int32)), .val (.int (0 : Int32)), .val (.int (0 : Int32)), .unset] [])) _
            refine Goes.by (fun _ kz => XS.iload X58.here hx rfl (hb hby at_112) rfl (XS.ifYes X58.here hx rfl (pc0 := 114) (pc' := 126) rfl (hb hby at_114) rfl ((if0 _ _).trans (teq (by decide : (0 : Int32) = (0 : Int32))).1) (by decide) (by decide) (XS.iconst X58.here hx rfl (hb hby at_126) kz))) ?_
            show Goes p e below (T58.setTop (mkF m 127 #[.val (.long p1), .second, .val (.long p2), .second, .val (.long p3), .second, .val (.long p4), .second, .val (.long p5), .second, .val (.long p6), .second, .val (.long (p1 + p5)), .second, .val (.long (p2 + p6)), .second, .val (.ref b6), .val (.int (1 : Int32)), .val (.int (0 : Int32)), .val (.int (0 : Int32)), .unset] [(.int (0 : Int32))])) _
            refine Goes.by (fun _ kz => XS.istore X58.here hx rfl (hb hby at_127) rfl (l' := #[.val (.long p1), .second, .val (.long p2), .second, .val (.long p3), .second, .val (.long p4), .second, .val (.long p5), .second, .val (.long p6), .second, .val (.long (p1 + p5)), .second, .val (.long (p2 + p6)), .second, .val (.ref b6), .val (.int (1 : Int32)), .val (.int (0 : Int32)), .val (.int (0 : Int32)), .val (.int (0 : Int32))]) rfl (XS.iload X58.here hx rfl (hb hby at_129) rfl (XS.iload X58.here hx rfl (hb hby at_131) rfl kz))) ?_
            show Goes p e below (T58.setTop (mkF m 133 #[.val (.long p1), .second, .val (.long p2), .second, .val (.long p3), .second, .val (.long p4), .second, .val (.long p5), .second, .val (.long p6), .second, .val (.long (p1 + p5)), .second, .val (.long (p2 + p6)), .second, .val (.ref b6), .val (.int (1 : Int32)), .val (.int (0 : Int32)), .val (.int (0 : Int32)), .val (.int (0 : Int32))] [(.int (0 : Int32)), (.int (1 : Int32))])) _
            refine Goes.by (fun _ kz => XS.icmpYes X58.here hx rfl (pc0 := 133) (pc' := 140) rfl (hb hby at_133) rfl (feq (by decide : ¬ ((1 : Int32) = (0 : Int32)))).2 (by decide) (by decide) (XS.iconst X58.here hx rfl (hb hby at_140) kz)) ?_
            show Goes p e below (T58.setTop (mkF m 141 #[.val (.long p1), .second, .val (.long p2), .second, .val (.long p3), .second, .val (.long p4), .second, .val (.long p5), .second, .val (.long p6), .second, .val (.long (p1 + p5)), .second, .val (.long (p2 + p6)), .second, .val (.ref b6), .val (.int (1 : Int32)), .val (.int (0 : Int32)), .val (.int (0 : Int32)), .val (.int (0 : Int32))] [(.int (0 : Int32))])) _
            exfalso
            revert hp58
            rw [own_C hp4 hp5]
            simp [hc60, hc61]
          · refine Goes.by (fun _ kz => XS.ifNo X58.here hx rfl (hb hby at_94) rfl ((if0 _ _).trans (flt (own_nlt hc61)).1) (XS.lload X58.here hx rfl (hb hby at_97) rfl (XS.lload X58.here hx rfl (hb hby at_99) rfl kz))) ?_
            show Goes p e below (T58.setTop (mkF m 101 #[.val (.long p1), .second, .val (.long p2), .second, .val (.long p3), .second, .val (.long p4), .second, .val (.long p5), .second, .val (.long p6), .second, .val (.long (p1 + p5)), .second, .val (.long (p2 + p6)), .second, .val (.ref b6), .val (.int (1 : Int32)), .val (.int (0 : Int32)), .unset, .unset] [(.long p4), (.long p6)])) _
            refine Goes.by (fun _ kz => XS.lcmp X58.here hx rfl (hb hby at_101) rfl kz) ?_
            show Goes p e below (T58.setTop (mkF m 102 #[.val (.long p1), .second, .val (.long p2), .second, .val (.long p3), .second, .val (.long p4), .second, .val (.long p5), .second, .val (.long p6), .second, .val (.long (p1 + p5)), .second, .val (.long (p2 + p6)), .second, .val (.ref b6), .val (.int (1 : Int32)), .val (.int (0 : Int32)), .unset, .unset] [(.int (lcmpW p6 p4))])) _
            by_cases hc62 : p6 < p4
            · refine Goes.by (fun _ kz => XS.ifNo X58.here hx rfl (hb hby at_102) rfl ((if0 _ _).trans (tlt (own_lt hc62)).2.1) (XS.iconst X58.here hx rfl (hb hby at_105) (XS.goto X58.here hx rfl (pc0 := 106) (pc' := 110) rfl (hb hby at_106) (by decide) (by decide) kz))) ?_
              show Goes p e below (T58.setTop (mkF m 110 #[.val (.long p1), .second, .val (.long p2), .second, .val (.long p3), .second, .val (.long p4), .second, .val (.long p5), .second, .val (.long p6), .second, .val (.long (p1 + p5)), .second, .val (.long (p2 + p6)), .second, .val (.ref b6), .val (.int (1 : Int32)), .val (.int (0 : Int32)), .unset, .unset] [(.int (1 : Int32))])) _
              refine Goes.by (fun _ kz => XS.istore X58.here hx rfl (hb hby at_110) rfl (l' := #[.val (.long p1), .second, .val (.long p2), .second, .val (.long p3), .second, .val (.long p4), .second, .val (.long p5), .second, .val (.long p6), .second, .val (.long (p1 + p5)), .second, .val (.long (p2 + p6)), .second, .val (.ref b6), .val (.int (1 : Int32)), .val (.int (0 : Int32)), .val (.int (1 : Int32)), .unset]) rfl (XS.iload X58.here hx rfl (hb hby at_112) rfl (XS.ifYes X58.here hx rfl (pc0 := 114) (pc' := 126) rfl (hb hby at_114) rfl ((if0 _ _).trans (teq (by decide : (0 : Int32) = (0 : Int32))).1) (by decide) (by decide) kz))) ?_
              show Goes p e below (T58.setTop (mkF m 126 #[.val (.long p1), .second, .val (.long p2), .second, .val (.long p3), .second, .val (.long p4), .second, .val (.long p5), .second, .val (.long p6), .second, .val (.long (p1 + p5)), .second, .val (.long (p2 + p6)), .second, .val (.ref b6), .val (.int (1 : Int32)), .val (.int (0 : Int32)), .val (.int (1 : Int32)), .unset] [])) _
              refine Goes.by (fun _ kz => XS.iconst X58.here hx rfl (hb hby at_126) (XS.istore X58.here hx rfl (hb hby at_127) rfl (l' := #[.val (.long p1), .second, .val (.long p2), .second, .val (.long p3), .second, .val (.long p4), .second, .val (.long p5), .second, .val (.long p6), .second, .val (.long (p1 + p5)), .second, .val (.long (p2 + p6)), .second, .val (.ref b6), .val (.int (1 : Int32)), .val (.int (0 : Int32)), .val (.int (1 : Int32)), .val (.int (0 : Int32))]) rfl (XS.iload X58.here hx rfl (hb hby at_129) rfl kz))) ?_
              show Goes p e below (T58.setTop (mkF m 131 #[.val (.long p1), .second, .val (.long p2), .second, .val (.long p3), .second, .val (.long p4), .second, .val (.long p5), .second, .val (.long p6), .second, .val (.long (p1 + p5)), .second, .val (.long (p2 + p6)), .second, .val (.ref b6), .val (.int (1 : Int32)), .val (.int (0 : Int32)), .val (.int (1 : Int32)), .val (.int (0 : Int32))] [(.int (1 : Int32))])) _
              refine Goes.by (fun _ kz => XS.iload X58.here hx rfl (hb hby at_131) rfl (XS.icmpYes X58.here hx rfl (pc0 := 133) (pc' := 140) rfl (hb hby at_133) rfl (feq (by decide : ¬ ((1 : Int32) = (0 : Int32)))).2 (by decide) (by decide) (XS.iconst X58.here hx rfl (hb hby at_140) kz))) ?_
              show Goes p e below (T58.setTop (mkF m 141 #[.val (.long p1), .second, .val (.long p2), .second, .val (.long p3), .second, .val (.long p4), .second, .val (.long p5), .second, .val (.long p6), .second, .val (.long (p1 + p5)), .second, .val (.long (p2 + p6)), .second, .val (.ref b6), .val (.int (1 : Int32)), .val (.int (0 : Int32)), .val (.int (1 : Int32)), .val (.int (0 : Int32))] [(.int (0 : Int32))])) _
              exfalso
              revert hp58
              rw [own_C hp4 hp5]
              simp [hc60, hc61, hc62]
            · refine Goes.by (fun _ kz => XS.ifYes X58.here hx rfl (pc0 := 102) (pc' := 109) rfl (hb hby at_102) rfl ((if0 _ _).trans (flt (own_nlt hc62)).2.1) (by decide) (by decide) (XS.iconst X58.here hx rfl (hb hby at_109) (XS.istore X58.here hx rfl (hb hby at_110) rfl (l' := #[.val (.long p1), .second, .val (.long p2), .second, .val (.long p3), .second, .val (.long p4), .second, .val (.long p5), .second, .val (.long p6), .second, .val (.long (p1 + p5)), .second, .val (.long (p2 + p6)), .second, .val (.ref b6), .val (.int (1 : Int32)), .val (.int (0 : Int32)), .val (.int (0 : Int32)), .unset]) rfl kz))) ?_
              show Goes p e below (T58.setTop (mkF m 112 #[.val (.long p1), .second, .val (.long p2), .second, .val (.long p3), .second, .val (.long p4), .second, .val (.long p5), .second, .val (.long p6), .second, .val (.long (p1 + p5)), .second, .val (.long (p2 + p6)), .second, .val (.ref b6), .val (.int (1 : Int32)), .val (.int (0 : Int32)), .val (.int (0 : Int32)), .unset] [])) _
              refine Goes.by (fun _ kz => XS.iload X58.here hx rfl (hb hby at_112) rfl (XS.ifYes X58.here hx rfl (pc0 := 114) (pc' := 126) rfl (hb hby at_114) rfl ((if0 _ _).trans (teq (by decide : (0 : Int32) = (0 : Int32))).1) (by decide) (by decide) (XS.iconst X58.here hx rfl (hb hby at_126) kz))) ?_
              show Goes p e below (T58.setTop (mkF m 127 #[.val (.long p1), .second, .val (.long p2), .second, .val (.long p3), .second, .val (.long p4), .second, .val (.long p5), .second, .val (.long p6), .second, .val (.long (p1 + p5)), .second, .val (.long (p2 + p6)), .second, .val (.ref b6), .val (.int (1 : Int32)), .val (.int (0 : Int32)), .val (.int (0 : Int32)), .unset] [(.int (0 : Int32))])) _
              refine Goes.by (fun _ kz => XS.istore X58.here hx rfl (hb hby at_127) rfl (l' := #[.val (.long p1), .second, .val (.long p2), .second, .val (.long p3), .second, .val (.long p4), .second, .val (.long p5), .second, .val (.long p6), .second, .val (.long (p1 + p5)), .second, .val (.long (p2 + p6)), .second, .val (.ref b6), .val (.int (1 : Int32)), .val (.int (0 : Int32)), .val (.int (0 : Int32)), .val (.int (0 : Int32))]) rfl (XS.iload X58.here hx rfl (hb hby at_129) rfl (XS.iload X58.here hx rfl (hb hby at_131) rfl kz))) ?_
              show Goes p e below (T58.setTop (mkF m 133 #[.val (.long p1), .second, .val (.long p2), .second, .val (.long p3), .second, .val (.long p4), .second, .val (.long p5), .second, .val (.long p6), .second, .val (.long (p1 + p5)), .second, .val (.long (p2 + p6)), .second, .val (.ref b6), .val (.int (1 : Int32)), .val (.int (0 : Int32)), .val (.int (0 : Int32)), .val (.int (0 : Int32))] [(.int (0 : Int32)), (.int (1 : Int32))])) _
              refine Goes.by (fun _ kz => XS.icmpYes X58.here hx rfl (pc0 := 133) (pc' := 140) rfl (hb hby at_133) rfl (feq (by decide : ¬ ((1 : Int32) = (0 : Int32)))).2 (by decide) (by decide) (XS.iconst X58.here hx rfl (hb hby at_140) kz)) ?_
              show Goes p e below (T58.setTop (mkF m 141 #[.val (.long p1), .second, .val (.long p2), .second, .val (.long p3), .second, .val (.long p4), .second, .val (.long p5), .second, .val (.long p6), .second, .val (.long (p1 + p5)), .second, .val (.long (p2 + p6)), .second, .val (.ref b6), .val (.int (1 : Int32)), .val (.int (0 : Int32)), .val (.int (0 : Int32)), .val (.int (0 : Int32))] [(.int (0 : Int32))])) _
              exfalso
              revert hp58
              rw [own_C hp4 hp5]
              simp [hc60, hc61, hc62]
        · refine Goes.by (fun _ kz => XS.ifNo X58.here hx rfl (hb hby at_72) rfl ((if0 _ _).trans (flt (own_nlt hc60)).1) (XS.lload X58.here hx rfl (hb hby at_75) rfl (XS.lload X58.here hx rfl (hb hby at_77) rfl kz))) ?_
          show Goes p e below (T58.setTop (mkF m 79 #[.val (.long p1), .second, .val (.long p2), .second, .val (.long p3), .second, .val (.long p4), .second, .val (.long p5), .second, .val (.long p6), .second, .val (.long (p1 + p5)), .second, .val (.long (p2 + p6)), .second, .val (.ref b6), .val (.int (1 : Int32)), .unset, .unset, .unset] [(.long p3), (.long p5)])) _
          refine Goes.by (fun _ kz => XS.lcmp X58.here hx rfl (hb hby at_79) rfl kz) ?_
          show Goes p e below (T58.setTop (mkF m 80 #[.val (.long p1), .second, .val (.long p2), .second, .val (.long p3), .second, .val (.long p4), .second, .val (.long p5), .second, .val (.long p6), .second, .val (.long (p1 + p5)), .second, .val (.long (p2 + p6)), .second, .val (.ref b6), .val (.int (1 : Int32)), .unset, .unset, .unset] [(.int (lcmpW p5 p3))])) _
          by_cases hc63 : p5 < p3
          · refine Goes.by (fun _ kz => XS.ifNo X58.here hx rfl (hb hby at_80) rfl ((if0 _ _).trans (tlt (own_lt hc63)).2.1) (XS.iconst X58.here hx rfl (hb hby at_83) (XS.goto X58.here hx rfl (pc0 := 84) (pc' := 88) rfl (hb hby at_84) (by decide) (by decide) kz))) ?_
            show Goes p e below (T58.setTop (mkF m 88 #[.val (.long p1), .second, .val (.long p2), .second, .val (.long p3), .second, .val (.long p4), .second, .val (.long p5), .second, .val (.long p6), .second, .val (.long (p1 + p5)), .second, .val (.long (p2 + p6)), .second, .val (.ref b6), .val (.int (1 : Int32)), .unset, .unset, .unset] [(.int (1 : Int32))])) _
            refine Goes.by (fun _ kz => XS.istore X58.here hx rfl (hb hby at_88) rfl (l' := #[.val (.long p1), .second, .val (.long p2), .second, .val (.long p3), .second, .val (.long p4), .second, .val (.long p5), .second, .val (.long p6), .second, .val (.long (p1 + p5)), .second, .val (.long (p2 + p6)), .second, .val (.ref b6), .val (.int (1 : Int32)), .val (.int (1 : Int32)), .unset, .unset]) rfl (XS.lload X58.here hx rfl (hb hby at_90) rfl (XS.lconst X58.here hx rfl (hb hby at_92) kz))) ?_
            show Goes p e below (T58.setTop (mkF m 93 #[.val (.long p1), .second, .val (.long p2), .second, .val (.long p3), .second, .val (.long p4), .second, .val (.long p5), .second, .val (.long p6), .second, .val (.long (p1 + p5)), .second, .val (.long (p2 + p6)), .second, .val (.ref b6), .val (.int (1 : Int32)), .val (.int (1 : Int32)), .unset, .unset] [(.long (0 : Int64)), (.long p6)])) _
            refine Goes.by (fun _ kz => XS.lcmp X58.here hx rfl (hb hby at_93) rfl kz) ?_
            show Goes p e below (T58.setTop (mkF m 94 #[.val (.long p1), .second, .val (.long p2), .second, .val (.long p3), .second, .val (.long p4), .second, .val (.long p5), .second, .val (.long p6), .second, .val (.long (p1 + p5)), .second, .val (.long (p2 + p6)), .second, .val (.ref b6), .val (.int (1 : Int32)), .val (.int (1 : Int32)), .unset, .unset] [(.int (lcmpW p6 (0 : Int64)))])) _
            by_cases hc64 : p6 < (0 : Int64)
            · refine Goes.by (fun _ kz => XS.ifYes X58.here hx rfl (pc0 := 94) (pc' := 109) rfl (hb hby at_94) rfl ((if0 _ _).trans (tlt (own_lt hc64)).1) (by decide) (by decide) (XS.iconst X58.here hx rfl (hb hby at_109) (XS.istore X58.here hx rfl (hb hby at_110) rfl (l' := #[.val (.long p1), .second, .val (.long p2), .second, .val (.long p3), .second, .val (.long p4), .second, .val (.long p5), .second, .val (.long p6), .second, .val (.long (p1 + p5)), .second, .val (.long (p2 + p6)), .second, .val (.ref b6), .val (.int (1 : Int32)), .val (.int (1 : Int32)), .val (.int (0 : Int32)), .unset]) rfl kz))) ?_
              show Goes p e below (T58.setTop (mkF m 112 #[.val (.long p1), .second, .val (.long p2), .second, .val (.long p3), .second, .val (.long p4), .second, .val (.long p5), .second, .val (.long p6), .second, .val (.long (p1 + p5)), .second, .val (.long (p2 + p6)), .second, .val (.ref b6), .val (.int (1 : Int32)), .val (.int (1 : Int32)), .val (.int (0 : Int32)), .unset] [])) _
              refine Goes.by (fun _ kz => XS.iload X58.here hx rfl (hb hby at_112) rfl (XS.ifNo X58.here hx rfl (hb hby at_114) rfl ((if0 _ _).trans (feq (by decide : ¬ ((1 : Int32) = (0 : Int32)))).1) (XS.iload X58.here hx rfl (hb hby at_117) rfl kz))) ?_
              show Goes p e below (T58.setTop (mkF m 119 #[.val (.long p1), .second, .val (.long p2), .second, .val (.long p3), .second, .val (.long p4), .second, .val (.long p5), .second, .val (.long p6), .second, .val (.long (p1 + p5)), .second, .val (.long (p2 + p6)), .second, .val (.ref b6), .val (.int (1 : Int32)), .val (.int (1 : Int32)), .val (.int (0 : Int32)), .unset] [(.int (0 : Int32))])) _
              refine Goes.by (fun _ kz => XS.ifYes X58.here hx rfl (pc0 := 119) (pc' := 126) rfl (hb hby at_119) rfl ((if0 _ _).trans (teq (by decide : (0 : Int32) = (0 : Int32))).1) (by decide) (by decide) (XS.iconst X58.here hx rfl (hb hby at_126) (XS.istore X58.here hx rfl (hb hby at_127) rfl (l' := #[.val (.long p1), .second, .val (.long p2), .second, .val (.long p3), .second, .val (.long p4), .second, .val (.long p5), .second, .val (.long p6), .second, .val (.long (p1 + p5)), .second, .val (.long (p2 + p6)), .second, .val (.ref b6), .val (.int (1 : Int32)), .val (.int (1 : Int32)), .val (.int (0 : Int32)), .val (.int (0 : Int32))]) rfl kz))) ?_
              show Goes p e below (T58.setTop (mkF m 129 #[.val (.long p1), .second, .val (.long p2), .second, .val (.long p3), .second, .val (.long p4), .second, .val (.long p5), .second, .val (.long p6), .second, .val (.long (p1 + p5)), .second, .val (.long (p2 + p6)), .second, .val (.ref b6), .val (.int (1 : Int32)), .val (.int (1 : Int32)), .val (.int (0 : Int32)), .val (.int (0 : Int32))] [])) _
              refine Goes.by (fun _ kz => XS.iload X58.here hx rfl (hb hby at_129) rfl (XS.iload X58.here hx rfl (hb hby at_131) rfl (XS.icmpYes X58.here hx rfl (pc0 := 133) (pc' := 140) rfl (hb hby at_133) rfl (feq (by decide : ¬ ((1 : Int32) = (0 : Int32)))).2 (by decide) (by decide) kz))) ?_
              show Goes p e below (T58.setTop (mkF m 140 #[.val (.long p1), .second, .val (.long p2), .second, .val (.long p3), .second, .val (.long p4), .second, .val (.long p5), .second, .val (.long p6), .second, .val (.long (p1 + p5)), .second, .val (.long (p2 + p6)), .second, .val (.ref b6), .val (.int (1 : Int32)), .val (.int (1 : Int32)), .val (.int (0 : Int32)), .val (.int (0 : Int32))] [])) _
              refine Goes.by (fun _ kz => XS.iconst X58.here hx rfl (hb hby at_140) kz) ?_
              show Goes p e below (T58.setTop (mkF m 141 #[.val (.long p1), .second, .val (.long p2), .second, .val (.long p3), .second, .val (.long p4), .second, .val (.long p5), .second, .val (.long p6), .second, .val (.long (p1 + p5)), .second, .val (.long (p2 + p6)), .second, .val (.ref b6), .val (.int (1 : Int32)), .val (.int (1 : Int32)), .val (.int (0 : Int32)), .val (.int (0 : Int32))] [(.int (0 : Int32))])) _
              exfalso
              revert hp58
              rw [own_C hp4 hp5]
              simp [hc60, hc63, hc64]
            · refine Goes.by (fun _ kz => XS.ifNo X58.here hx rfl (hb hby at_94) rfl ((if0 _ _).trans (flt (own_nlt hc64)).1) (XS.lload X58.here hx rfl (hb hby at_97) rfl (XS.lload X58.here hx rfl (hb hby at_99) rfl kz))) ?_
              show Goes p e below (T58.setTop (mkF m 101 #[.val (.long p1), .second, .val (.long p2), .second, .val (.long p3), .second, .val (.long p4), .second, .val (.long p5), .second, .val (.long p6), .second, .val (.long (p1 + p5)), .second, .val (.long (p2 + p6)), .second, .val (.ref b6), .val (.int (1 : Int32)), .val (.int (1 : Int32)), .unset, .unset] [(.long p4), (.long p6)])) _
              refine Goes.by (fun _ kz => XS.lcmp X58.here hx rfl (hb hby at_101) rfl kz) ?_
              show Goes p e below (T58.setTop (mkF m 102 #[.val (.long p1), .second, .val (.long p2), .second, .val (.long p3), .second, .val (.long p4), .second, .val (.long p5), .second, .val (.long p6), .second, .val (.long (p1 + p5)), .second, .val (.long (p2 + p6)), .second, .val (.ref b6), .val (.int (1 : Int32)), .val (.int (1 : Int32)), .unset, .unset] [(.int (lcmpW p6 p4))])) _
              by_cases hc65 : p6 < p4
              · refine Goes.by (fun _ kz => XS.ifNo X58.here hx rfl (hb hby at_102) rfl ((if0 _ _).trans (tlt (own_lt hc65)).2.1) (XS.iconst X58.here hx rfl (hb hby at_105) (XS.goto X58.here hx rfl (pc0 := 106) (pc' := 110) rfl (hb hby at_106) (by decide) (by decide) kz))) ?_
                show Goes p e below (T58.setTop (mkF m 110 #[.val (.long p1), .second, .val (.long p2), .second, .val (.long p3), .second, .val (.long p4), .second, .val (.long p5), .second, .val (.long p6), .second, .val (.long (p1 + p5)), .second, .val (.long (p2 + p6)), .second, .val (.ref b6), .val (.int (1 : Int32)), .val (.int (1 : Int32)), .unset, .unset] [(.int (1 : Int32))])) _
                refine Goes.by (fun _ kz => XS.istore X58.here hx rfl (hb hby at_110) rfl (l' := #[.val (.long p1), .second, .val (.long p2), .second, .val (.long p3), .second, .val (.long p4), .second, .val (.long p5), .second, .val (.long p6), .second, .val (.long (p1 + p5)), .second, .val (.long (p2 + p6)), .second, .val (.ref b6), .val (.int (1 : Int32)), .val (.int (1 : Int32)), .val (.int (1 : Int32)), .unset]) rfl (XS.iload X58.here hx rfl (hb hby at_112) rfl (XS.ifNo X58.here hx rfl (hb hby at_114) rfl ((if0 _ _).trans (feq (by decide : ¬ ((1 : Int32) = (0 : Int32)))).1) kz))) ?_
                show Goes p e below (T58.setTop (mkF m 117 #[.val (.long p1), .second, .val (.long p2), .second, .val (.long p3), .second, .val (.long p4), .second, .val (.long p5), .second, .val (.long p6), .second, .val (.long (p1 + p5)), .second, .val (.long (p2 + p6)), .second, .val (.ref b6), .val (.int (1 : Int32)), .val (.int (1 : Int32)), .val (.int (1 : Int32)), .unset] [])) _
                refine Goes.by (fun _ kz => XS.iload X58.here hx rfl (hb hby at_117) rfl (XS.ifNo X58.here hx rfl (hb hby at_119) rfl ((if0 _ _).trans (feq (by decide : ¬ ((1 : Int32) = (0 : Int32)))).1) (XS.iconst X58.here hx rfl (hb hby at_122) kz))) ?_
                show Goes p e below (T58.setTop (mkF m 123 #[.val (.long p1), .second, .val (.long p2), .second, .val (.long p3), .second, .val (.long p4), .second, .val (.long p5), .second, .val (.long p6), .second, .val (.long (p1 + p5)), .second, .val (.long (p2 + p6)), .second, .val (.ref b6), .val (.int (1 : Int32)), .val (.int (1 : Int32)), .val (.int (1 : Int32)), .unset] [(.int (1 : Int32))])) _
                refine Goes.by (fun _ kz => XS.goto X58.here hx rfl (pc0 := 123) (pc' := 127) rfl (hb hby at_123) (by decide) (by decide) (XS.istore X58.here hx rfl (hb hby at_127) rfl (l' := #[.val (.long p1), .second, .val (.long p2), .second, .val (.long p3), .second, .val (.long p4), .second, .val (.long p5), .second, .val (.long p6), .second, .val (.long (p1 + p5)), .second, .val (.long (p2 + p6)), .second, .val (.ref b6), .val (.int (1 : Int32)), .val (.int (1 : Int32)), .val (.int (1 : Int32)), .val (.int (1 : Int32))]) rfl (XS.iload X58.here hx rfl (hb hby at_129) rfl kz))) ?_
                show Goes p e below (T58.setTop (mkF m 131 #[.val (.long p1), .second, .val (.long p2), .second, .val (.long p3), .second, .val (.long p4), .second, .val (.long p5), .second, .val (.long p6), .second, .val (.long (p1 + p5)), .second, .val (.long (p2 + p6)), .second, .val (.ref b6), .val (.int (1 : Int32)), .val (.int (1 : Int32)), .val (.int (1 : Int32)), .val (.int (1 : Int32))] [(.int (1 : Int32))])) _
                refine Goes.by (fun _ kz => XS.iload X58.here hx rfl (hb hby at_131) rfl (XS.icmpNo X58.here hx rfl (hb hby at_133) rfl (teq (by decide : (1 : Int32) = (1 : Int32))).2 (XS.iconst X58.here hx rfl (hb hby at_136) kz))) ?_
                show Goes p e below (T58.setTop (mkF m 137 #[.val (.long p1), .second, .val (.long p2), .second, .val (.long p3), .second, .val (.long p4), .second, .val (.long p5), .second, .val (.long p6), .second, .val (.long (p1 + p5)), .second, .val (.long (p2 + p6)), .second, .val (.ref b6), .val (.int (1 : Int32)), .val (.int (1 : Int32)), .val (.int (1 : Int32)), .val (.int (1 : Int32))] [(.int (1 : Int32))])) _
                refine Goes.by (fun _ kz => XS.goto X58.here hx rfl (pc0 := 137) (pc' := 141) rfl (hb hby at_137) (by decide) (by decide) kz) ?_
                show Goes p e below (T58.setTop (mkF m 141 #[.val (.long p1), .second, .val (.long p2), .second, .val (.long p3), .second, .val (.long p4), .second, .val (.long p5), .second, .val (.long p6), .second, .val (.long (p1 + p5)), .second, .val (.long (p2 + p6)), .second, .val (.ref b6), .val (.int (1 : Int32)), .val (.int (1 : Int32)), .val (.int (1 : Int32)), .val (.int (1 : Int32))] [(.int (1 : Int32))])) _
                obtain ⟨fs, hr, hrun, hended, hRW⟩ := X58.leaveW (s := s) hS7 (by rw [e58]; exact hk47) (v := some (.int (1 : Int32))) (fun h => by rw [Bd.returns] at h; cases h)
                exact ⟨_, _, retN X58 hx (t := .boolean) Bd.returns (by simp) (hb hby at_141) hr, hrun, hended, _, _, rfl, ⟨rfl, N58⟩, hRW.1, hRW.2.1, hRW.2.2.1, hRW.2.2.2.mono (by decide) (by decide)⟩
              · refine Goes.by (fun _ kz => XS.ifYes X58.here hx rfl (pc0 := 102) (pc' := 109) rfl (hb hby at_102) rfl ((if0 _ _).trans (flt (own_nlt hc65)).2.1) (by decide) (by decide) (XS.iconst X58.here hx rfl (hb hby at_109) (XS.istore X58.here hx rfl (hb hby at_110) rfl (l' := #[.val (.long p1), .second, .val (.long p2), .second, .val (.long p3), .second, .val (.long p4), .second, .val (.long p5), .second, .val (.long p6), .second, .val (.long (p1 + p5)), .second, .val (.long (p2 + p6)), .second, .val (.ref b6), .val (.int (1 : Int32)), .val (.int (1 : Int32)), .val (.int (0 : Int32)), .unset]) rfl kz))) ?_
                show Goes p e below (T58.setTop (mkF m 112 #[.val (.long p1), .second, .val (.long p2), .second, .val (.long p3), .second, .val (.long p4), .second, .val (.long p5), .second, .val (.long p6), .second, .val (.long (p1 + p5)), .second, .val (.long (p2 + p6)), .second, .val (.ref b6), .val (.int (1 : Int32)), .val (.int (1 : Int32)), .val (.int (0 : Int32)), .unset] [])) _
                refine Goes.by (fun _ kz => XS.iload X58.here hx rfl (hb hby at_112) rfl (XS.ifNo X58.here hx rfl (hb hby at_114) rfl ((if0 _ _).trans (feq (by decide : ¬ ((1 : Int32) = (0 : Int32)))).1) (XS.iload X58.here hx rfl (hb hby at_117) rfl kz))) ?_
                show Goes p e below (T58.setTop (mkF m 119 #[.val (.long p1), .second, .val (.long p2), .second, .val (.long p3), .second, .val (.long p4), .second, .val (.long p5), .second, .val (.long p6), .second, .val (.long (p1 + p5)), .second, .val (.long (p2 + p6)), .second, .val (.ref b6), .val (.int (1 : Int32)), .val (.int (1 : Int32)), .val (.int (0 : Int32)), .unset] [(.int (0 : Int32))])) _
                refine Goes.by (fun _ kz => XS.ifYes X58.here hx rfl (pc0 := 119) (pc' := 126) rfl (hb hby at_119) rfl ((if0 _ _).trans (teq (by decide : (0 : Int32) = (0 : Int32))).1) (by decide) (by decide) (XS.iconst X58.here hx rfl (hb hby at_126) (XS.istore X58.here hx rfl (hb hby at_127) rfl (l' := #[.val (.long p1), .second, .val (.long p2), .second, .val (.long p3), .second, .val (.long p4), .second, .val (.long p5), .second, .val (.long p6), .second, .val (.long (p1 + p5)), .second, .val (.long (p2 + p6)), .second, .val (.ref b6), .val (.int (1 : Int32)), .val (.int (1 : Int32)), .val (.int (0 : Int32)), .val (.int (0 : Int32))]) rfl kz))) ?_
                show Goes p e below (T58.setTop (mkF m 129 #[.val (.long p1), .second, .val (.long p2), .second, .val (.long p3), .second, .val (.long p4), .second, .val (.long p5), .second, .val (.long p6), .second, .val (.long (p1 + p5)), .second, .val (.long (p2 + p6)), .second, .val (.ref b6), .val (.int (1 : Int32)), .val (.int (1 : Int32)), .val (.int (0 : Int32)), .val (.int (0 : Int32))] [])) _
                refine Goes.by (fun _ kz => XS.iload X58.here hx rfl (hb hby at_129) rfl (XS.iload X58.here hx rfl (hb hby at_131) rfl (XS.icmpYes X58.here hx rfl (pc0 := 133) (pc' := 140) rfl (hb hby at_133) rfl (feq (by decide : ¬ ((1 : Int32) = (0 : Int32)))).2 (by decide) (by decide) kz))) ?_
                show Goes p e below (T58.setTop (mkF m 140 #[.val (.long p1), .second, .val (.long p2), .second, .val (.long p3), .second, .val (.long p4), .second, .val (.long p5), .second, .val (.long p6), .second, .val (.long (p1 + p5)), .second, .val (.long (p2 + p6)), .second, .val (.ref b6), .val (.int (1 : Int32)), .val (.int (1 : Int32)), .val (.int (0 : Int32)), .val (.int (0 : Int32))] [])) _
                refine Goes.by (fun _ kz => XS.iconst X58.here hx rfl (hb hby at_140) kz) ?_
                show Goes p e below (T58.setTop (mkF m 141 #[.val (.long p1), .second, .val (.long p2), .second, .val (.long p3), .second, .val (.long p4), .second, .val (.long p5), .second, .val (.long p6), .second, .val (.long (p1 + p5)), .second, .val (.long (p2 + p6)), .second, .val (.ref b6), .val (.int (1 : Int32)), .val (.int (1 : Int32)), .val (.int (0 : Int32)), .val (.int (0 : Int32))] [(.int (0 : Int32))])) _
                exfalso
                revert hp58
                rw [own_C hp4 hp5]
                simp [hc60, hc63, hc64, hc65]
          · refine Goes.by (fun _ kz => XS.ifYes X58.here hx rfl (pc0 := 80) (pc' := 87) rfl (hb hby at_80) rfl ((if0 _ _).trans (flt (own_nlt hc63)).2.1) (by decide) (by decide) (XS.iconst X58.here hx rfl (hb hby at_87) (XS.istore X58.here hx rfl (hb hby at_88) rfl (l' := #[.val (.long p1), .second, .val (.long p2), .second, .val (.long p3), .second, .val (.long p4), .second, .val (.long p5), .second, .val (.long p6), .second, .val (.long (p1 + p5)), .second, .val (.long (p2 + p6)), .second, .val (.ref b6), .val (.int (1 : Int32)), .val (.int (0 : Int32)), .unset, .unset]) rfl kz))) ?_
            show Goes p e below (T58.setTop (mkF m 90 #[.val (.long p1), .second, .val (.long p2), .second, .val (.long p3), .second, .val (.long p4), .second, .val (.long p5), .second, .val (.long p6), .second, .val (.long (p1 + p5)), .second, .val (.long (p2 + p6)), .second, .val (.ref b6), .val (.int (1 : Int32)), .val (.int (0 : Int32)), .unset, .unset] [])) _
            refine Goes.by (fun _ kz => XS.lload X58.here hx rfl (hb hby at_90) rfl (XS.lconst X58.here hx rfl (hb hby at_92) (XS.lcmp X58.here hx rfl (hb hby at_93) rfl kz))) ?_
            show Goes p e below (T58.setTop (mkF m 94 #[.val (.long p1), .second, .val (.long p2), .second, .val (.long p3), .second, .val (.long p4), .second, .val (.long p5), .second, .val (.long p6), .second, .val (.long (p1 + p5)), .second, .val (.long (p2 + p6)), .second, .val (.ref b6), .val (.int (1 : Int32)), .val (.int (0 : Int32)), .unset, .unset] [(.int (lcmpW p6 (0 : Int64)))])) _
            by_cases hc66 : p6 < (0 : Int64)
            · refine Goes.by (fun _ kz => XS.ifYes X58.here hx rfl (pc0 := 94) (pc' := 109) rfl (hb hby at_94) rfl ((if0 _ _).trans (tlt (own_lt hc66)).1) (by decide) (by decide) (XS.iconst X58.here hx rfl (hb hby at_109) (XS.istore X58.here hx rfl (hb hby at_110) rfl (l' := #[.val (.long p1), .second, .val (.long p2), .second, .val (.long p3), .second, .val (.long p4), .second, .val (.long p5), .second, .val (.long p6), .second, .val (.long (p1 + p5)), .second, .val (.long (p2 + p6)), .second, .val (.ref b6), .val (.int (1 : Int32)), .val (.int (0 : Int32)), .val (.int (0 : Int32)), .unset]) rfl kz))) ?_
              show Goes p e below (T58.setTop (mkF m 112 #[.val (.long p1), .second, .val (.long p2), .second, .val (.long p3), .second, .val (.long p4), .second, .val (.long p5), .second, .val (.long p6), .second, .val (.long (p1 + p5)), .second, .val (.long (p2 + p6)), .second, .val (.ref b6), .val (.int (1 : Int32)), .val (.int (0 : Int32)), .val (.int (0 : Int32)), .unset] [])) _
              refine Goes.by (fun _ kz => XS.iload X58.here hx rfl (hb hby at_112) rfl (XS.ifYes X58.here hx rfl (pc0 := 114) (pc' := 126) rfl (hb hby at_114) rfl ((if0 _ _).trans (teq (by decide : (0 : Int32) = (0 : Int32))).1) (by decide) (by decide) (XS.iconst X58.here hx rfl (hb hby at_126) kz))) ?_
              show Goes p e below (T58.setTop (mkF m 127 #[.val (.long p1), .second, .val (.long p2), .second, .val (.long p3), .second, .val (.long p4), .second, .val (.long p5), .second, .val (.long p6), .second, .val (.long (p1 + p5)), .second, .val (.long (p2 + p6)), .second, .val (.ref b6), .val (.int (1 : Int32)), .val (.int (0 : Int32)), .val (.int (0 : Int32)), .unset] [(.int (0 : Int32))])) _
              refine Goes.by (fun _ kz => XS.istore X58.here hx rfl (hb hby at_127) rfl (l' := #[.val (.long p1), .second, .val (.long p2), .second, .val (.long p3), .second, .val (.long p4), .second, .val (.long p5), .second, .val (.long p6), .second, .val (.long (p1 + p5)), .second, .val (.long (p2 + p6)), .second, .val (.ref b6), .val (.int (1 : Int32)), .val (.int (0 : Int32)), .val (.int (0 : Int32)), .val (.int (0 : Int32))]) rfl (XS.iload X58.here hx rfl (hb hby at_129) rfl (XS.iload X58.here hx rfl (hb hby at_131) rfl kz))) ?_
              show Goes p e below (T58.setTop (mkF m 133 #[.val (.long p1), .second, .val (.long p2), .second, .val (.long p3), .second, .val (.long p4), .second, .val (.long p5), .second, .val (.long p6), .second, .val (.long (p1 + p5)), .second, .val (.long (p2 + p6)), .second, .val (.ref b6), .val (.int (1 : Int32)), .val (.int (0 : Int32)), .val (.int (0 : Int32)), .val (.int (0 : Int32))] [(.int (0 : Int32)), (.int (1 : Int32))])) _
              refine Goes.by (fun _ kz => XS.icmpYes X58.here hx rfl (pc0 := 133) (pc' := 140) rfl (hb hby at_133) rfl (feq (by decide : ¬ ((1 : Int32) = (0 : Int32)))).2 (by decide) (by decide) (XS.iconst X58.here hx rfl (hb hby at_140) kz)) ?_
              show Goes p e below (T58.setTop (mkF m 141 #[.val (.long p1), .second, .val (.long p2), .second, .val (.long p3), .second, .val (.long p4), .second, .val (.long p5), .second, .val (.long p6), .second, .val (.long (p1 + p5)), .second, .val (.long (p2 + p6)), .second, .val (.ref b6), .val (.int (1 : Int32)), .val (.int (0 : Int32)), .val (.int (0 : Int32)), .val (.int (0 : Int32))] [(.int (0 : Int32))])) _
              exfalso
              revert hp58
              rw [own_C hp4 hp5]
              simp [hc60, hc63, hc66]
            · refine Goes.by (fun _ kz => XS.ifNo X58.here hx rfl (hb hby at_94) rfl ((if0 _ _).trans (flt (own_nlt hc66)).1) (XS.lload X58.here hx rfl (hb hby at_97) rfl (XS.lload X58.here hx rfl (hb hby at_99) rfl kz))) ?_
              show Goes p e below (T58.setTop (mkF m 101 #[.val (.long p1), .second, .val (.long p2), .second, .val (.long p3), .second, .val (.long p4), .second, .val (.long p5), .second, .val (.long p6), .second, .val (.long (p1 + p5)), .second, .val (.long (p2 + p6)), .second, .val (.ref b6), .val (.int (1 : Int32)), .val (.int (0 : Int32)), .unset, .unset] [(.long p4), (.long p6)])) _
              refine Goes.by (fun _ kz => XS.lcmp X58.here hx rfl (hb hby at_101) rfl kz) ?_
              show Goes p e below (T58.setTop (mkF m 102 #[.val (.long p1), .second, .val (.long p2), .second, .val (.long p3), .second, .val (.long p4), .second, .val (.long p5), .second, .val (.long p6), .second, .val (.long (p1 + p5)), .second, .val (.long (p2 + p6)), .second, .val (.ref b6), .val (.int (1 : Int32)), .val (.int (0 : Int32)), .unset, .unset] [(.int (lcmpW p6 p4))])) _
              by_cases hc67 : p6 < p4
              · refine Goes.by (fun _ kz => XS.ifNo X58.here hx rfl (hb hby at_102) rfl ((if0 _ _).trans (tlt (own_lt hc67)).2.1) (XS.iconst X58.here hx rfl (hb hby at_105) (XS.goto X58.here hx rfl (pc0 := 106) (pc' := 110) rfl (hb hby at_106) (by decide) (by decide) kz))) ?_
                show Goes p e below (T58.setTop (mkF m 110 #[.val (.long p1), .second, .val (.long p2), .second, .val (.long p3), .second, .val (.long p4), .second, .val (.long p5), .second, .val (.long p6), .second, .val (.long (p1 + p5)), .second, .val (.long (p2 + p6)), .second, .val (.ref b6), .val (.int (1 : Int32)), .val (.int (0 : Int32)), .unset, .unset] [(.int (1 : Int32))])) _
                refine Goes.by (fun _ kz => XS.istore X58.here hx rfl (hb hby at_110) rfl (l' := #[.val (.long p1), .second, .val (.long p2), .second, .val (.long p3), .second, .val (.long p4), .second, .val (.long p5), .second, .val (.long p6), .second, .val (.long (p1 + p5)), .second, .val (.long (p2 + p6)), .second, .val (.ref b6), .val (.int (1 : Int32)), .val (.int (0 : Int32)), .val (.int (1 : Int32)), .unset]) rfl (XS.iload X58.here hx rfl (hb hby at_112) rfl (XS.ifYes X58.here hx rfl (pc0 := 114) (pc' := 126) rfl (hb hby at_114) rfl ((if0 _ _).trans (teq (by decide : (0 : Int32) = (0 : Int32))).1) (by decide) (by decide) kz))) ?_
                show Goes p e below (T58.setTop (mkF m 126 #[.val (.long p1), .second, .val (.long p2), .second, .val (.long p3), .second, .val (.long p4), .second, .val (.long p5), .second, .val (.long p6), .second, .val (.long (p1 + p5)), .second, .val (.long (p2 + p6)), .second, .val (.ref b6), .val (.int (1 : Int32)), .val (.int (0 : Int32)), .val (.int (1 : Int32)), .unset] [])) _
                refine Goes.by (fun _ kz => XS.iconst X58.here hx rfl (hb hby at_126) (XS.istore X58.here hx rfl (hb hby at_127) rfl (l' := #[.val (.long p1), .second, .val (.long p2), .second, .val (.long p3), .second, .val (.long p4), .second, .val (.long p5), .second, .val (.long p6), .second, .val (.long (p1 + p5)), .second, .val (.long (p2 + p6)), .second, .val (.ref b6), .val (.int (1 : Int32)), .val (.int (0 : Int32)), .val (.int (1 : Int32)), .val (.int (0 : Int32))]) rfl (XS.iload X58.here hx rfl (hb hby at_129) rfl kz))) ?_
                show Goes p e below (T58.setTop (mkF m 131 #[.val (.long p1), .second, .val (.long p2), .second, .val (.long p3), .second, .val (.long p4), .second, .val (.long p5), .second, .val (.long p6), .second, .val (.long (p1 + p5)), .second, .val (.long (p2 + p6)), .second, .val (.ref b6), .val (.int (1 : Int32)), .val (.int (0 : Int32)), .val (.int (1 : Int32)), .val (.int (0 : Int32))] [(.int (1 : Int32))])) _
                refine Goes.by (fun _ kz => XS.iload X58.here hx rfl (hb hby at_131) rfl (XS.icmpYes X58.here hx rfl (pc0 := 133) (pc' := 140) rfl (hb hby at_133) rfl (feq (by decide : ¬ ((1 : Int32) = (0 : Int32)))).2 (by decide) (by decide) (XS.iconst X58.here hx rfl (hb hby at_140) kz))) ?_
                show Goes p e below (T58.setTop (mkF m 141 #[.val (.long p1), .second, .val (.long p2), .second, .val (.long p3), .second, .val (.long p4), .second, .val (.long p5), .second, .val (.long p6), .second, .val (.long (p1 + p5)), .second, .val (.long (p2 + p6)), .second, .val (.ref b6), .val (.int (1 : Int32)), .val (.int (0 : Int32)), .val (.int (1 : Int32)), .val (.int (0 : Int32))] [(.int (0 : Int32))])) _
                exfalso
                revert hp58
                rw [own_C hp4 hp5]
                simp [hc60, hc63, hc66, hc67]
              · refine Goes.by (fun _ kz => XS.ifYes X58.here hx rfl (pc0 := 102) (pc' := 109) rfl (hb hby at_102) rfl ((if0 _ _).trans (flt (own_nlt hc67)).2.1) (by decide) (by decide) (XS.iconst X58.here hx rfl (hb hby at_109) (XS.istore X58.here hx rfl (hb hby at_110) rfl (l' := #[.val (.long p1), .second, .val (.long p2), .second, .val (.long p3), .second, .val (.long p4), .second, .val (.long p5), .second, .val (.long p6), .second, .val (.long (p1 + p5)), .second, .val (.long (p2 + p6)), .second, .val (.ref b6), .val (.int (1 : Int32)), .val (.int (0 : Int32)), .val (.int (0 : Int32)), .unset]) rfl kz))) ?_
                show Goes p e below (T58.setTop (mkF m 112 #[.val (.long p1), .second, .val (.long p2), .second, .val (.long p3), .second, .val (.long p4), .second, .val (.long p5), .second, .val (.long p6), .second, .val (.long (p1 + p5)), .second, .val (.long (p2 + p6)), .second, .val (.ref b6), .val (.int (1 : Int32)), .val (.int (0 : Int32)), .val (.int (0 : Int32)), .unset] [])) _
                refine Goes.by (fun _ kz => XS.iload X58.here hx rfl (hb hby at_112) rfl (XS.ifYes X58.here hx rfl (pc0 := 114) (pc' := 126) rfl (hb hby at_114) rfl ((if0 _ _).trans (teq (by decide : (0 : Int32) = (0 : Int32))).1) (by decide) (by decide) (XS.iconst X58.here hx rfl (hb hby at_126) kz))) ?_
                show Goes p e below (T58.setTop (mkF m 127 #[.val (.long p1), .second, .val (.long p2), .second, .val (.long p3), .second, .val (.long p4), .second, .val (.long p5), .second, .val (.long p6), .second, .val (.long (p1 + p5)), .second, .val (.long (p2 + p6)), .second, .val (.ref b6), .val (.int (1 : Int32)), .val (.int (0 : Int32)), .val (.int (0 : Int32)), .unset] [(.int (0 : Int32))])) _
                refine Goes.by (fun _ kz => XS.istore X58.here hx rfl (hb hby at_127) rfl (l' := #[.val (.long p1), .second, .val (.long p2), .second, .val (.long p3), .second, .val (.long p4), .second, .val (.long p5), .second, .val (.long p6), .second, .val (.long (p1 + p5)), .second, .val (.long (p2 + p6)), .second, .val (.ref b6), .val (.int (1 : Int32)), .val (.int (0 : Int32)), .val (.int (0 : Int32)), .val (.int (0 : Int32))]) rfl (XS.iload X58.here hx rfl (hb hby at_129) rfl (XS.iload X58.here hx rfl (hb hby at_131) rfl kz))) ?_
                show Goes p e below (T58.setTop (mkF m 133 #[.val (.long p1), .second, .val (.long p2), .second, .val (.long p3), .second, .val (.long p4), .second, .val (.long p5), .second, .val (.long p6), .second, .val (.long (p1 + p5)), .second, .val (.long (p2 + p6)), .second, .val (.ref b6), .val (.int (1 : Int32)), .val (.int (0 : Int32)), .val (.int (0 : Int32)), .val (.int (0 : Int32))] [(.int (0 : Int32)), (.int (1 : Int32))])) _
                refine Goes.by (fun _ kz => XS.icmpYes X58.here hx rfl (pc0 := 133) (pc' := 140) rfl (hb hby at_133) rfl (feq (by decide : ¬ ((1 : Int32) = (0 : Int32)))).2 (by decide) (by decide) (XS.iconst X58.here hx rfl (hb hby at_140) kz)) ?_
                show Goes p e below (T58.setTop (mkF m 141 #[.val (.long p1), .second, .val (.long p2), .second, .val (.long p3), .second, .val (.long p4), .second, .val (.long p5), .second, .val (.long p6), .second, .val (.long (p1 + p5)), .second, .val (.long (p2 + p6)), .second, .val (.ref b6), .val (.int (1 : Int32)), .val (.int (0 : Int32)), .val (.int (0 : Int32)), .val (.int (0 : Int32))] [(.int (0 : Int32))])) _
                exfalso
                revert hp58
                rw [own_C hp4 hp5]
                simp [hc60, hc63, hc66, hc67]
      · obtain ⟨rfl, Nq58, e58, hp58⟩ := hQ58
        have N58 := Fr.app N47 Nq58
        refine Goes.tr st58 ?_
        refine Goes.by (fun _ kz => XS.istore X58.here hx rfl (hb hby at_66) rfl (l' := #[.val (.long p1), .second, .val (.long p2), .second, .val (.long p3), .second, .val (.long p4), .second, .val (.long p5), .second, .val (.long p6), .second, .val (.long (p1 + p5)), .second, .val (.long (p2 + p6)), .second, .val (.ref b6), .val (.int (0 : Int32)), .unset, .unset, .unset]) rfl (XS.lload X58.here hx rfl (hb hby at_68) rfl (XS.lconst X58.here hx rfl (hb hby at_70) kz))) ?_
        show Goes p e below (T58.setTop (mkF m 71 #[.val (.long p1), .second, .val (.long p2), .second, .val (.long p3), .second, .val (.long p4), .second, .val (.long p5), .second, .val (.long p6), .second, .val (.long (p1 + p5)), .second, .val (.long (p2 + p6)), .second, .val (.ref b6), .val (.int (0 : Int32)), .unset, .unset, .unset] [(.long (0 : Int64)), (.long p5)])) _
        refine Goes.by (fun _ kz => XS.lcmp X58.here hx rfl (hb hby at_71) rfl kz) ?_
        show Goes p e below (T58.setTop (mkF m 72 #[.val (.long p1), .second, .val (.long p2), .second, .val (.long p3), .second, .val (.long p4), .second, .val (.long p5), .second, .val (.long p6), .second, .val (.long (p1 + p5)), .second, .val (.long (p2 + p6)), .second, .val (.ref b6), .val (.int (0 : Int32)), .unset, .unset, .unset] [(.int (lcmpW p5 (0 : Int64)))])) _
        by_cases hc68 : p5 < (0 : Int64)
        · refine Goes.by (fun _ kz => XS.ifYes X58.here hx rfl (pc0 := 72) (pc' := 87) rfl (hb hby at_72) rfl ((if0 _ _).trans (tlt (own_lt hc68)).1) (by decide) (by decide) (XS.iconst X58.here hx rfl (hb hby at_87) (XS.istore X58.here hx rfl (hb hby at_88) rfl (l' := #[.val (.long p1), .second, .val (.long p2), .second, .val (.long p3), .second, .val (.long p4), .second, .val (.long p5), .second, .val (.long p6), .second, .val (.long (p1 + p5)), .second, .val (.long (p2 + p6)), .second, .val (.ref b6), .val (.int (0 : Int32)), .val (.int (0 : Int32)), .unset, .unset]) rfl kz))) ?_
          show Goes p e below (T58.setTop (mkF m 90 #[.val (.long p1), .second, .val (.long p2), .second, .val (.long p3), .second, .val (.long p4), .second, .val (.long p5), .second, .val (.long p6), .second, .val (.long (p1 + p5)), .second, .val (.long (p2 + p6)), .second, .val (.ref b6), .val (.int (0 : Int32)), .val (.int (0 : Int32)), .unset, .unset] [])) _
          refine Goes.by (fun _ kz => XS.lload X58.here hx rfl (hb hby at_90) rfl (XS.lconst X58.here hx rfl (hb hby at_92) (XS.lcmp X58.here hx rfl (hb hby at_93) rfl kz))) ?_
          show Goes p e below (T58.setTop (mkF m 94 #[.val (.long p1), .second, .val (.long p2), .second, .val (.long p3), .second, .val (.long p4), .second, .val (.long p5), .second, .val (.long p6), .second, .val (.long (p1 + p5)), .second, .val (.long (p2 + p6)), .second, .val (.ref b6), .val (.int (0 : Int32)), .val (.int (0 : Int32)), .unset, .unset] [(.int (lcmpW p6 (0 : Int64)))])) _
          by_cases hc69 : p6 < (0 : Int64)
          · refine Goes.by (fun _ kz => XS.ifYes X58.here hx rfl (pc0 := 94) (pc' := 109) rfl (hb hby at_94) rfl ((if0 _ _).trans (tlt (own_lt hc69)).1) (by decide) (by decide) (XS.iconst X58.here hx rfl (hb hby at_109) (XS.istore X58.here hx rfl (hb hby at_110) rfl (l' := #[.val (.long p1), .second, .val (.long p2), .second, .val (.long p3), .second, .val (.long p4), .second, .val (.long p5), .second, .val (.long p6), .second, .val (.long (p1 + p5)), .second, .val (.long (p2 + p6)), .second, .val (.ref b6), .val (.int (0 : Int32)), .val (.int (0 : Int32)), .val (.int (0 : Int32)), .unset]) rfl kz))) ?_
            show Goes p e below (T58.setTop (mkF m 112 #[.val (.long p1), .second, .val (.long p2), .second, .val (.long p3), .second, .val (.long p4), .second, .val (.long p5), .second, .val (.long p6), .second, .val (.long (p1 + p5)), .second, .val (.long (p2 + p6)), .second, .val (.ref b6), .val (.int (0 : Int32)), .val (.int (0 : Int32)), .val (.int (0 : Int32)), .unset] [])) _
            refine Goes.by (fun _ kz => XS.iload X58.here hx rfl (hb hby at_112) rfl (XS.ifYes X58.here hx rfl (pc0 := 114) (pc' := 126) rfl (hb hby at_114) rfl ((if0 _ _).trans (teq (by decide : (0 : Int32) = (0 : Int32))).1) (by decide) (by decide) (XS.iconst X58.here hx rfl (hb hby at_126) kz))) ?_
            show Goes p e below (T58.setTop (mkF m 127 #[.val (.long p1), .second, .val (.long p2), .second, .val (.long p3), .second, .val (.long p4), .second, .val (.long p5), .second, .val (.long p6), .second, .val (.long (p1 + p5)), .second, .val (.long (p2 + p6)), .second, .val (.ref b6), .val (.int (0 : Int32)), .val (.int (0 : Int32)), .val (.int (0 : Int32)), .unset] [(.int (0 : Int32))])) _
            refine Goes.by (fun _ kz => XS.istore X58.here hx rfl (hb hby at_127) rfl (l' := #[.val (.long p1), .second, .val (.long p2), .second, .val (.long p3), .second, .val (.long p4), .second, .val (.long p5), .second, .val (.long p6), .second, .val (.long (p1 + p5)), .second, .val (.long (p2 + p6)), .second, .val (.ref b6), .val (.int (0 : Int32)), .val (.int (0 : Int32)), .val (.int (0 : Int32)), .val (.int (0 : Int32))]) rfl (XS.iload X58.here hx rfl (hb hby at_129) rfl (XS.iload X58.here hx rfl (hb hby at_131) rfl kz))) ?_
            show Goes p e below (T58.setTop (mkF m 133 #[.val (.long p1), .second, .val (.long p2), .second, .val (.long p3), .second, .val (.long p4), .second, .val (.long p5), .second, .val (.long p6), .second, .val (.long (p1 + p5)), .second, .val (.long (p2 + p6)), .second, .val (.ref b6), .val (.int (0 : Int32)), .val (.int (0 : Int32)), .val (.int (0 : Int32)), .val (.int (0 : Int32))] [(.int (0 : Int32)), (.int (0 : Int32))])) _
            refine Goes.by (fun _ kz => XS.icmpNo X58.here hx rfl (hb hby at_133) rfl (teq (by decide : (0 : Int32) = (0 : Int32))).2 (XS.iconst X58.here hx rfl (hb hby at_136) (XS.goto X58.here hx rfl (pc0 := 137) (pc' := 141) rfl (hb hby at_137) (by decide) (by decide) kz))) ?_
            show Goes p e below (T58.setTop (mkF m 141 #[.val (.long p1), .second, .val (.long p2), .second, .val (.long p3), .second, .val (.long p4), .second, .val (.long p5), .second, .val (.long p6), .second, .val (.long (p1 + p5)), .second, .val (.long (p2 + p6)), .second, .val (.ref b6), .val (.int (0 : Int32)), .val (.int (0 : Int32)), .val (.int (0 : Int32)), .val (.int (0 : Int32))] [(.int (1 : Int32))])) _
            obtain ⟨fs, hr, hrun, hended, hRW⟩ := X58.leaveW (s := s) hS7 (by rw [e58]; exact hk47) (v := some (.int (1 : Int32))) (fun h => by rw [Bd.returns] at h; cases h)
            exact ⟨_, _, retN X58 hx (t := .boolean) Bd.returns (by simp) (hb hby at_141) hr, hrun, hended, _, _, rfl, ⟨rfl, N58⟩, hRW.1, hRW.2.1, hRW.2.2.1, hRW.2.2.2.mono (by decide) (by decide)⟩
          · refine Goes.by (fun _ kz => XS.ifNo X58.here hx rfl (hb hby at_94) rfl ((if0 _ _).trans (flt (own_nlt hc69)).1) (XS.lload X58.here hx rfl (hb hby at_97) rfl (XS.lload X58.here hx rfl (hb hby at_99) rfl kz))) ?_
            show Goes p e below (T58.setTop (mkF m 101 #[.val (.long p1), .second, .val (.long p2), .second, .val (.long p3), .second, .val (.long p4), .second, .val (.long p5), .second, .val (.long p6), .second, .val (.long (p1 + p5)), .second, .val (.long (p2 + p6)), .second, .val (.ref b6), .val (.int (0 : Int32)), .val (.int (0 : Int32)), .unset, .unset] [(.long p4), (.long p6)])) _
            refine Goes.by (fun _ kz => XS.lcmp X58.here hx rfl (hb hby at_101) rfl kz) ?_
            show Goes p e below (T58.setTop (mkF m 102 #[.val (.long p1), .second, .val (.long p2), .second, .val (.long p3), .second, .val (.long p4), .second, .val (.long p5), .second, .val (.long p6), .second, .val (.long (p1 + p5)), .second, .val (.long (p2 + p6)), .second, .val (.ref b6), .val (.int (0 : Int32)), .val (.int (0 : Int32)), .unset, .unset] [(.int (lcmpW p6 p4))])) _
            by_cases hc70 : p6 < p4
            · refine Goes.by (fun _ kz => XS.ifNo X58.here hx rfl (hb hby at_102) rfl ((if0 _ _).trans (tlt (own_lt hc70)).2.1) (XS.iconst X58.here hx rfl (hb hby at_105) (XS.goto X58.here hx rfl (pc0 := 106) (pc' := 110) rfl (hb hby at_106) (by decide) (by decide) kz))) ?_
              show Goes p e below (T58.setTop (mkF m 110 #[.val (.long p1), .second, .val (.long p2), .second, .val (.long p3), .second, .val (.long p4), .second, .val (.long p5), .second, .val (.long p6), .second, .val (.long (p1 + p5)), .second, .val (.long (p2 + p6)), .second, .val (.ref b6), .val (.int (0 : Int32)), .val (.int (0 : Int32)), .unset, .unset] [(.int (1 : Int32))])) _
              refine Goes.by (fun _ kz => XS.istore X58.here hx rfl (hb hby at_110) rfl (l' := #[.val (.long p1), .second, .val (.long p2), .second, .val (.long p3), .second, .val (.long p4), .second, .val (.long p5), .second, .val (.long p6), .second, .val (.long (p1 + p5)), .second, .val (.long (p2 + p6)), .second, .val (.ref b6), .val (.int (0 : Int32)), .val (.int (0 : Int32)), .val (.int (1 : Int32)), .unset]) rfl (XS.iload X58.here hx rfl (hb hby at_112) rfl (XS.ifYes X58.here hx rfl (pc0 := 114) (pc' := 126) rfl (hb hby at_114) rfl ((if0 _ _).trans (teq (by decide : (0 : Int32) = (0 : Int32))).1) (by decide) (by decide) kz))) ?_
              show Goes p e below (T58.setTop (mkF m 126 #[.val (.long p1), .second, .val (.long p2), .second, .val (.long p3), .second, .val (.long p4), .second, .val (.long p5), .second, .val (.long p6), .second, .val (.long (p1 + p5)), .second, .val (.long (p2 + p6)), .second, .val (.ref b6), .val (.int (0 : Int32)), .val (.int (0 : Int32)), .val (.int (1 : Int32)), .unset] [])) _
              refine Goes.by (fun _ kz => XS.iconst X58.here hx rfl (hb hby at_126) (XS.istore X58.here hx rfl (hb hby at_127) rfl (l' := #[.val (.long p1), .second, .val (.long p2), .second, .val (.long p3), .second, .val (.long p4), .second, .val (.long p5), .second, .val (.long p6), .second, .val (.long (p1 + p5)), .second, .val (.long (p2 + p6)), .second, .val (.ref b6), .val (.int (0 : Int32)), .val (.int (0 : Int32)), .val (.int (1 : Int32)), .val (.int (0 : Int32))]) rfl (XS.iload X58.here hx rfl (hb hby at_129) rfl kz))) ?_
              show Goes p e below (T58.setTop (mkF m 131 #[.val (.long p1), .second, .val (.long p2), .second, .val (.long p3), .second, .val (.long p4), .second, .val (.long p5), .second, .val (.long p6), .second, .val (.long (p1 + p5)), .second, .val (.long (p2 + p6)), .second, .val (.ref b6), .val (.int (0 : Int32)), .val (.int (0 : Int32)), .val (.int (1 : Int32)), .val (.int (0 : Int32))] [(.int (0 : Int32))])) _
              refine Goes.by (fun _ kz => XS.iload X58.here hx rfl (hb hby at_131) rfl (XS.icmpNo X58.here hx rfl (hb hby at_133) rfl (teq (by decide : (0 : Int32) = (0 : Int32))).2 (XS.iconst X58.here hx rfl (hb hby at_136) kz))) ?_
              show Goes p e below (T58.setTop (mkF m 137 #[.val (.long p1), .second, .val (.long p2), .second, .val (.long p3), .second, .val (.long p4), .second, .val (.long p5), .second, .val (.long p6), .second, .val (.long (p1 + p5)), .second, .val (.long (p2 + p6)), .second, .val (.ref b6), .val (.int (0 : Int32)), .val (.int (0 : Int32)), .val (.int (1 : Int32)), .val (.int (0 : Int32))] [(.int (1 : Int32))])) _
              refine Goes.by (fun _ kz => XS.goto X58.here hx rfl (pc0 := 137) (pc' := 141) rfl (hb hby at_137) (by decide) (by decide) kz) ?_
              show Goes p e below (T58.setTop (mkF m 141 #[.val (.long p1), .second, .val (.long p2), .second, .val (.long p3), .second, .val (.long p4), .second, .val (.long p5), .second, .val (.long p6), .second, .val (.long (p1 + p5)), .second, .val (.long (p2 + p6)), .second, .val (.ref b6), .val (.int (0 : Int32)), .val (.int (0 : Int32)), .val (.int (1 : Int32)), .val (.int (0 : Int32))] [(.int (1 : Int32))])) _
              obtain ⟨fs, hr, hrun, hended, hRW⟩ := X58.leaveW (s := s) hS7 (by rw [e58]; exact hk47) (v := some (.int (1 : Int32))) (fun h => by rw [Bd.returns] at h; cases h)
              exact ⟨_, _, retN X58 hx (t := .boolean) Bd.returns (by simp) (hb hby at_141) hr, hrun, hended, _, _, rfl, ⟨rfl, N58⟩, hRW.1, hRW.2.1, hRW.2.2.1, hRW.2.2.2.mono (by decide) (by decide)⟩
            · refine Goes.by (fun _ kz => XS.ifYes X58.here hx rfl (pc0 := 102) (pc' := 109) rfl (hb hby at_102) rfl ((if0 _ _).trans (flt (own_nlt hc70)).2.1) (by decide) (by decide) (XS.iconst X58.here hx rfl (hb hby at_109) (XS.istore X58.here hx rfl (hb hby at_110) rfl (l' := #[.val (.long p1), .second, .val (.long p2), .second, .val (.long p3), .second, .val (.long p4), .second, .val (.long p5), .second, .val (.long p6), .second, .val (.long (p1 + p5)), .second, .val (.long (p2 + p6)), .second, .val (.ref b6), .val (.int (0 : Int32)), .val (.int (0 : Int32)), .val (.int (0 : Int32)), .unset]) rfl kz))) ?_
              show Goes p e below (T58.setTop (mkF m 112 #[.val (.long p1), .second, .val (.long p2), .second, .val (.long p3), .second, .val (.long p4), .second, .val (.long p5), .second, .val (.long p6), .second, .val (.long (p1 + p5)), .second, .val (.long (p2 + p6)), .second, .val (.ref b6), .val (.int (0 : Int32)), .val (.int (0 : Int32)), .val (.int (0 : Int32)), .unset] [])) _
              refine Goes.by (fun _ kz => XS.iload X58.here hx rfl (hb hby at_112) rfl (XS.ifYes X58.here hx rfl (pc0 := 114) (pc' := 126) rfl (hb hby at_114) rfl ((if0 _ _).trans (teq (by decide : (0 : Int32) = (0 : Int32))).1) (by decide) (by decide) (XS.iconst X58.here hx rfl (hb hby at_126) kz))) ?_
              show Goes p e below (T58.setTop (mkF m 127 #[.val (.long p1), .second, .val (.long p2), .second, .val (.long p3), .second, .val (.long p4), .second, .val (.long p5), .second, .val (.long p6), .second, .val (.long (p1 + p5)), .second, .val (.long (p2 + p6)), .second, .val (.ref b6), .val (.int (0 : Int32)), .val (.int (0 : Int32)), .val (.int (0 : Int32)), .unset] [(.int (0 : Int32))])) _
              refine Goes.by (fun _ kz => XS.istore X58.here hx rfl (hb hby at_127) rfl (l' := #[.val (.long p1), .second, .val (.long p2), .second, .val (.long p3), .second, .val (.long p4), .second, .val (.long p5), .second, .val (.long p6), .second, .val (.long (p1 + p5)), .second, .val (.long (p2 + p6)), .second, .val (.ref b6), .val (.int (0 : Int32)), .val (.int (0 : Int32)), .val (.int (0 : Int32)), .val (.int (0 : Int32))]) rfl (XS.iload X58.here hx rfl (hb hby at_129) rfl (XS.iload X58.here hx rfl (hb hby at_131) rfl kz))) ?_
              show Goes p e below (T58.setTop (mkF m 133 #[.val (.long p1), .second, .val (.long p2), .second, .val (.long p3), .second, .val (.long p4), .second, .val (.long p5), .second, .val (.long p6), .second, .val (.long (p1 + p5)), .second, .val (.long (p2 + p6)), .second, .val (.ref b6), .val (.int (0 : Int32)), .val (.int (0 : Int32)), .val (.int (0 : Int32)), .val (.int (0 : Int32))] [(.int (0 : Int32)), (.int (0 : Int32))])) _
              refine Goes.by (fun _ kz => XS.icmpNo X58.here hx rfl (hb hby at_133) rfl (teq (by decide : (0 : Int32) = (0 : Int32))).2 (XS.iconst X58.here hx rfl (hb hby at_136) (XS.goto X58.here hx rfl (pc0 := 137) (pc' := 141) rfl (hb hby at_137) (by decide) (by decide) kz))) ?_
              show Goes p e below (T58.setTop (mkF m 141 #[.val (.long p1), .second, .val (.long p2), .second, .val (.long p3), .second, .val (.long p4), .second, .val (.long p5), .second, .val (.long p6), .second, .val (.long (p1 + p5)), .second, .val (.long (p2 + p6)), .second, .val (.ref b6), .val (.int (0 : Int32)), .val (.int (0 : Int32)), .val (.int (0 : Int32)), .val (.int (0 : Int32))] [(.int (1 : Int32))])) _
              obtain ⟨fs, hr, hrun, hended, hRW⟩ := X58.leaveW (s := s) hS7 (by rw [e58]; exact hk47) (v := some (.int (1 : Int32))) (fun h => by rw [Bd.returns] at h; cases h)
              exact ⟨_, _, retN X58 hx (t := .boolean) Bd.returns (by simp) (hb hby at_141) hr, hrun, hended, _, _, rfl, ⟨rfl, N58⟩, hRW.1, hRW.2.1, hRW.2.2.1, hRW.2.2.2.mono (by decide) (by decide)⟩
        · refine Goes.by (fun _ kz => XS.ifNo X58.here hx rfl (hb hby at_72) rfl ((if0 _ _).trans (flt (own_nlt hc68)).1) (XS.lload X58.here hx rfl (hb hby at_75) rfl (XS.lload X58.here hx rfl (hb hby at_77) rfl kz))) ?_
          show Goes p e below (T58.setTop (mkF m 79 #[.val (.long p1), .second, .val (.long p2), .second, .val (.long p3), .second, .val (.long p4), .second, .val (.long p5), .second, .val (.long p6), .second, .val (.long (p1 + p5)), .second, .val (.long (p2 + p6)), .second, .val (.ref b6), .val (.int (0 : Int32)), .unset, .unset, .unset] [(.long p3), (.long p5)])) _
          refine Goes.by (fun _ kz => XS.lcmp X58.here hx rfl (hb hby at_79) rfl kz) ?_
          show Goes p e below (T58.setTop (mkF m 80 #[.val (.long p1), .second, .val (.long p2), .second, .val (.long p3), .second, .val (.long p4), .second, .val (.long p5), .second, .val (.long p6), .second, .val (.long (p1 + p5)), .second, .val (.long (p2 + p6)), .second, .val (.ref b6), .val (.int (0 : Int32)), .unset, .unset, .unset] [(.int (lcmpW p5 p3))])) _
          by_cases hc71 : p5 < p3
          · refine Goes.by (fun _ kz => XS.ifNo X58.here hx rfl (hb hby at_80) rfl ((if0 _ _).trans (tlt (own_lt hc71)).2.1) (XS.iconst X58.here hx rfl (hb hby at_83) (XS.goto X58.here hx rfl (pc0 := 84) (pc' := 88) rfl (hb hby at_84) (by decide) (by decide) kz))) ?_
            show Goes p e below (T58.setTop (mkF m 88 #[.val (.long p1), .second, .val (.long p2), .second, .val (.long p3), .second, .val (.long p4), .second, .val (.long p5), .second, .val (.long p6), .second, .val (.long (p1 + p5)), .second, .val (.long (p2 + p6)), .second, .val (.ref b6), .val (.int (0 : Int32)), .unset, .unset, .unset] [(.int (1 : Int32))])) _
            refine Goes.by (fun _ kz => XS.istore X58.here hx rfl (hb hby at_88) rfl (l' := #[.val (.long p1), .second, .val (.long p2), .second, .val (.long p3), .second, .val (.long p4), .second, .val (.long p5), .second, .val (.long p6), .second, .val (.long (p1 + p5)), .second, .val (.long (p2 + p6)), .second, .val (.ref b6), .val (.int (0 : Int32)), .val (.int (1 : Int32)), .unset, .unset]) rfl (XS.lload X58.here hx rfl (hb hby at_90) rfl (XS.lconst X58.here hx rfl (hb hby at_92) kz))) ?_
            show Goes p e below (T58.setTop (mkF m 93 #[.val (.long p1), .second, .val (.long p2), .second, .val (.long p3), .second, .val (.long p4), .second, .val (.long p5), .second, .val (.long p6), .second, .val (.long (p1 + p5)), .second, .val (.long (p2 + p6)), .second, .val (.ref b6), .val (.int (0 : Int32)), .val (.int (1 : Int32)), .unset, .unset] [(.long (0 : Int64)), (.long p6)])) _
            refine Goes.by (fun _ kz => XS.lcmp X58.here hx rfl (hb hby at_93) rfl kz) ?_
            show Goes p e below (T58.setTop (mkF m 94 #[.val (.long p1), .second, .val (.long p2), .second, .val (.long p3), .second, .val (.long p4), .second, .val (.long p5), .second, .val (.long p6), .second, .val (.long (p1 + p5)), .second, .val (.long (p2 + p6)), .second, .val (.ref b6), .val (.int (0 : Int32)), .val (.int (1 : Int32)), .unset, .unset] [(.int (lcmpW p6 (0 : Int64)))])) _
            by_cases hc72 : p6 < (0 : Int64)
            · refine Goes.by (fun _ kz => XS.ifYes X58.here hx rfl (pc0 := 94) (pc' := 109) rfl (hb hby at_94) rfl ((if0 _ _).trans (tlt (own_lt hc72)).1) (by decide) (by decide) (XS.iconst X58.here hx rfl (hb hby at_109) (XS.istore X58.here hx rfl (hb hby at_110) rfl (l' := #[.val (.long p1), .second, .val (.long p2), .second, .val (.long p3), .second, .val (.long p4), .second, .val (.long p5), .second, .val (.long p6), .second, .val (.long (p1 + p5)), .second, .val (.long (p2 + p6)), .second, .val (.ref b6), .val (.int (0 : Int32)), .val (.int (1 : Int32)), .val (.int (0 : Int32)), .unset]) rfl kz))) ?_
              show Goes p e below (T58.setTop (mkF m 112 #[.val (.long p1), .second, .val (.long p2), .second, .val (.long p3), .second, .val (.long p4), .second, .val (.long p5), .second, .val (.long p6), .second, .val (.long (p1 + p5)), .second, .val (.long (p2 + p6)), .second, .val (.ref b6), .val (.int (0 : Int32)), .val (.int (1 : Int32)), .val (.int (0 : Int32)), .unset] [])) _
              refine Goes.by (fun _ kz => XS.iload X58.here hx rfl (hb hby at_112) rfl (XS.ifNo X58.here hx rfl (hb hby at_114) rfl ((if0 _ _).trans (feq (by decide : ¬ ((1 : Int32) = (0 : Int32)))).1) (XS.iload X58.here hx rfl (hb hby at_117) rfl kz))) ?_
              show Goes p e below (T58.setTop (mkF m 119 #[.val (.long p1), .second, .val (.long p2), .second, .val (.long p3), .second, .val (.long p4), .second, .val (.long p5), .second, .val (.long p6), .second, .val (.long (p1 + p5)), .second, .val (.long (p2 + p6)), .second, .val (.ref b6), .val (.int (0 : Int32)), .val (.int (1 : Int32)), .val (.int (0 : Int32)), .unset] [(.int (0 : Int32))])) _
              refine Goes.by (fun _ kz => XS.ifYes X58.here hx rfl (pc0 := 119) (pc' := 126) rfl (hb hby at_119) rfl ((if0 _ _).trans (teq (by decide : (0 : Int32) = (0 : Int32))).1) (by decide) (by decide) (XS.iconst X58.here hx rfl (hb hby at_126) (XS.istore X58.here hx rfl (hb hby at_127) rfl (l' := #[.val (.long p1), .second, .val (.long p2), .second, .val (.long p3), .second, .val (.long p4), .second, .val (.long p5), .second, .val (.long p6), .second, .val (.long (p1 + p5)), .second, .val (.long (p2 + p6)), .second, .val (.ref b6), .val (.int (0 : Int32)), .val (.int (1 : Int32)), .val (.int (0 : Int32)), .val (.int (0 : Int32))]) rfl kz))) ?_
              show Goes p e below (T58.setTop (mkF m 129 #[.val (.long p1), .second, .val (.long p2), .second, .val (.long p3), .second, .val (.long p4), .second, .val (.long p5), .second, .val (.long p6), .second, .val (.long (p1 + p5)), .second, .val (.long (p2 + p6)), .second, .val (.ref b6), .val (.int (0 : Int32)), .val (.int (1 : Int32)), .val (.int (0 : Int32)), .val (.int (0 : Int32))] [])) _
              refine Goes.by (fun _ kz => XS.iload X58.here hx rfl (hb hby at_129) rfl (XS.iload X58.here hx rfl (hb hby at_131) rfl (XS.icmpNo X58.here hx rfl (hb hby at_133) rfl (teq (by decide : (0 : Int32) = (0 : Int32))).2 kz))) ?_
              show Goes p e below (T58.setTop (mkF m 136 #[.val (.long p1), .second, .val (.long p2), .second, .val (.long p3), .second, .val (.long p4), .second, .val (.long p5), .second, .val (.long p6), .second, .val (.long (p1 + p5)), .second, .val (.long (p2 + p6)), .second, .val (.ref b6), .val (.int (0 : Int32)), .val (.int (1 : Int32)), .val (.int (0 : Int32)), .val (.int (0 : Int32))] [])) _
              refine Goes.by (fun _ kz => XS.iconst X58.here hx rfl (hb hby at_136) (XS.goto X58.here hx rfl (pc0 := 137) (pc' := 141) rfl (hb hby at_137) (by decide) (by decide) kz)) ?_
              show Goes p e below (T58.setTop (mkF m 141 #[.val (.long p1), .second, .val (.long p2), .second, .val (.long p3), .second, .val (.long p4), .second, .val (.long p5), .second, .val (.long p6), .second, .val (.long (p1 + p5)), .second, .val (.long (p2 + p6)), .second, .val (.ref b6), .val (.int (0 : Int32)), .val (.int (1 : Int32)), .val (.int (0 : Int32)), .val (.int (0 : Int32))] [(.int (1 : Int32))])) _
              obtain ⟨fs, hr, hrun, hended, hRW⟩ := X58.leaveW (s := s) hS7 (by rw [e58]; exact hk47) (v := some (.int (1 : Int32))) (fun h => by rw [Bd.returns] at h; cases h)
              exact ⟨_, _, retN X58 hx (t := .boolean) Bd.returns (by simp) (hb hby at_141) hr, hrun, hended, _, _, rfl, ⟨rfl, N58⟩, hRW.1, hRW.2.1, hRW.2.2.1, hRW.2.2.2.mono (by decide) (by decide)⟩
            · refine Goes.by (fun _ kz => XS.ifNo X58.here hx rfl (hb hby at_94) rfl ((if0 _ _).trans (flt (own_nlt hc72)).1) (XS.lload X58.here hx rfl (hb hby at_97) rfl (XS.lload X58.here hx rfl (hb hby at_99) rfl kz))) ?_
              show Goes p e below (T58.setTop (mkF m 101 #[.val (.long p1), .second, .val (.long p2), .second, .val (.long p3), .second, .val (.long p4), .second, .val (.long p5), .second, .val (.long p6), .second, .val (.long (p1 + p5)), .second, .val (.long (p2 + p6)), .second, .val (.ref b6), .val (.int (0 : Int32)), .val (.int (1 : Int32)), .unset, .unset] [(.long p4), (.long p6)])) _
              refine Goes.by (fun _ kz => XS.lcmp X58.here hx rfl (hb hby at_101) rfl kz) ?_
              show Goes p e below (T58.setTop (mkF m 102 #[.val (.long p1), .second, .val (.long p2), .second, .val (.long p3), .second, .val (.long p4), .second, .val (.long p5), .second, .val (.long p6), .second, .val (.long (p1 + p5)), .second, .val (.long (p2 + p6)), .second, .val (.ref b6), .val (.int (0 : Int32)), .val (.int (1 : Int32)), .unset, .unset] [(.int (lcmpW p6 p4))])) _
              by_cases hc73 : p6 < p4
              · refine Goes.by (fun _ kz => XS.ifNo X58.here hx rfl (hb hby at_102) rfl ((if0 _ _).trans (tlt (own_lt hc73)).2.1) (XS.iconst X58.here hx rfl (hb hby at_105) (XS.goto X58.here hx rfl (pc0 := 106) (pc' := 110) rfl (hb hby at_106) (by decide) (by decide) kz))) ?_
                show Goes p e below (T58.setTop (mkF m 110 #[.val (.long p1), .second, .val (.long p2), .second, .val (.long p3), .second, .val (.long p4), .second, .val (.long p5), .second, .val (.long p6), .second, .val (.long (p1 + p5)), .second, .val (.long (p2 + p6)), .second, .val (.ref b6), .val (.int (0 : Int32)), .val (.int (1 : Int32)), .unset, .unset] [(.int (1 : Int32))])) _
                refine Goes.by (fun _ kz => XS.istore X58.here hx rfl (hb hby at_110) rfl (l' := #[.val (.long p1), .second, .val (.long p2), .second, .val (.long p3), .second, .val (.long p4), .second, .val (.long p5), .second, .val (.long p6), .second, .val (.long (p1 + p5)), .second, .val (.long (p2 + p6)), .second, .val (.ref b6), .val (.int (0 : Int32)), .val (.int (1 : Int32)), .val (.int (1 : Int32)), .unset]) rfl (XS.iload X58.here hx rfl (hb hby at_112) rfl (XS.ifNo X58.here hx rfl (hb hby at_114) rfl ((if0 _ _).trans (feq (by decide : ¬ ((1 : Int32) = (0 : Int32)))).1) kz))) ?_
                show Goes p e below (T58.setTop (mkF m 117 #[.val (.long p1), .second, .val (.long p2), .second, .val (.long p3), .second, .val (.long p4), .second, .val (.long p5), .second, .val (.long p6), .second, .val (.long (p1 + p5)), .second, .val (.long (p2 + p6)), .second, .val (.ref b6), .val (.int (0 : Int32)), .val (.int (1 : Int32)), .val (.int (1 : Int32)), .unset] [])) _
                refine Goes.by (fun _ kz => XS.iload X58.here hx rfl (hb hby at_117) rfl (XS.ifNo X58.here hx rfl (hb hby at_119) rfl ((if0 _ _).trans (feq (by decide : ¬ ((1 : Int32) = (0 : Int32)))).1) (XS.iconst X58.here hx rfl (hb hby at_122) kz))) ?_
                show Goes p e below (T58.setTop (mkF m 123 #[.val (.long p1), .second, .val (.long p2), .second, .val (.long p3), .second, .val (.long p4), .second, .val (.long p5), .second, .val (.long p6), .second, .val (.long (p1 + p5)), .second, .val (.long (p2 + p6)), .second, .val (.ref b6), .val (.int (0 : Int32)), .val (.int (1 : Int32)), .val (.int (1 : Int32)), .unset] [(.int (1 : Int32))])) _
                refine Goes.by (fun _ kz => XS.goto X58.here hx rfl (pc0 := 123) (pc' := 127) rfl (hb hby at_123) (by decide) (by decide) (XS.istore X58.here hx rfl (hb hby at_127) rfl (l' := #[.val (.long p1), .second, .val (.long p2), .second, .val (.long p3), .second, .val (.long p4), .second, .val (.long p5), .second, .val (.long p6), .second, .val (.long (p1 + p5)), .second, .val (.long (p2 + p6)), .second, .val (.ref b6), .val (.int (0 : Int32)), .val (.int (1 : Int32)), .val (.int (1 : Int32)), .val (.int (1 : Int32))]) rfl (XS.iload X58.here hx rfl (hb hby at_129) rfl kz))) ?_
                show Goes p e below (T58.setTop (mkF m 131 #[.val (.long p1), .second, .val (.long p2), .second, .val (.long p3), .second, .val (.long p4), .second, .val (.long p5), .second, .val (.long p6), .second, .val (.long (p1 + p5)), .second, .val (.long (p2 + p6)), .second, .val (.ref b6), .val (.int (0 : Int32)), .val (.int (1 : Int32)), .val (.int (1 : Int32)), .val (.int (1 : Int32))] [(.int (0 : Int32))])) _
                refine Goes.by (fun _ kz => XS.iload X58.here hx rfl (hb hby at_131) rfl (XS.icmpYes X58.here hx rfl (pc0 := 133) (pc' := 140) rfl (hb hby at_133) rfl (feq (by decide : ¬ ((0 : Int32) = (1 : Int32)))).2 (by decide) (by decide) (XS.iconst X58.here hx rfl (hb hby at_140) kz))) ?_
                show Goes p e below (T58.setTop (mkF m 141 #[.val (.long p1), .second, .val (.long p2), .second, .val (.long p3), .second, .val (.long p4), .second, .val (.long p5), .second, .val (.long p6), .second, .val (.long (p1 + p5)), .second, .val (.long (p2 + p6)), .second, .val (.ref b6), .val (.int (0 : Int32)), .val (.int (1 : Int32)), .val (.int (1 : Int32)), .val (.int (1 : Int32))] [(.int (0 : Int32))])) _
                exfalso
                revert hp58
                rw [own_C hp4 hp5]
                simp [hc68, hc71, hc72, hc73]
              · refine Goes.by (fun _ kz => XS.ifYes X58.here hx rfl (pc0 := 102) (pc' := 109) rfl (hb hby at_102) rfl ((if0 _ _).trans (flt (own_nlt hc73)).2.1) (by decide) (by decide) (XS.iconst X58.here hx rfl (hb hby at_109) (XS.istore X58.here hx rfl (hb hby at_110) rfl (l' := #[.val (.long p1), .second, .val (.long p2), .second, .val (.long p3), .second, .val (.long p4), .second, .val (.long p5), .second, .val (.long p6), .second, .val (.long (p1 + p5)), .second, .val (.long (p2 + p6)), .second, .val (.ref b6), .val (.int (0 : Int32)), .val (.int (1 : Int32)), .val (.int (0 : Int32)), .unset]) rfl kz))) ?_
                show Goes p e below (T58.setTop (mkF m 112 #[.val (.long p1), .second, .val (.long p2), .second, .val (.long p3), .second, .val (.long p4), .second, .val (.long p5), .second, .val (.long p6), .second, .val (.long (p1 + p5)), .second, .val (.long (p2 + p6)), .second, .val (.ref b6), .val (.int (0 : Int32)), .val (.int (1 : Int32)), .val (.int (0 : Int32)), .unset] [])) _
                refine Goes.by (fun _ kz => XS.iload X58.here hx rfl (hb hby at_112) rfl (XS.ifNo X58.here hx rfl (hb hby at_114) rfl ((if0 _ _).trans (feq (by decide : ¬ ((1 : Int32) = (0 : Int32)))).1) (XS.iload X58.here hx rfl (hb hby at_117) rfl kz))) ?_
                show Goes p e below (T58.setTop (mkF m 119 #[.val (.long p1), .second, .val (.long p2), .second, .val (.long p3), .second, .val (.long p4), .second, .val (.long p5), .second, .val (.long p6), .second, .val (.long (p1 + p5)), .second, .val (.long (p2 + p6)), .second, .val (.ref b6), .val (.int (0 : Int32)), .val (.int (1 : Int32)), .val (.int (0 : Int32)), .unset] [(.int (0 : Int32))])) _
                refine Goes.by (fun _ kz => XS.ifYes X58.here hx rfl (pc0 := 119) (pc' := 126) rfl (hb hby at_119) rfl ((if0 _ _).trans (teq (by decide : (0 : Int32) = (0 : Int32))).1) (by decide) (by decide) (XS.iconst X58.here hx rfl (hb hby at_126) (XS.istore X58.here hx rfl (hb hby at_127) rfl (l' := #[.val (.long p1), .second, .val (.long p2), .second, .val (.long p3), .second, .val (.long p4), .second, .val (.long p5), .second, .val (.long p6), .second, .val (.long (p1 + p5)), .second, .val (.long (p2 + p6)), .second, .val (.ref b6), .val (.int (0 : Int32)), .val (.int (1 : Int32)), .val (.int (0 : Int32)), .val (.int (0 : Int32))]) rfl kz))) ?_
                show Goes p e below (T58.setTop (mkF m 129 #[.val (.long p1), .second, .val (.long p2), .second, .val (.long p3), .second, .val (.long p4), .second, .val (.long p5), .second, .val (.long p6), .second, .val (.long (p1 + p5)), .second, .val (.long (p2 + p6)), .second, .val (.ref b6), .val (.int (0 : Int32)), .val (.int (1 : Int32)), .val (.int (0 : Int32)), .val (.int (0 : Int32))] [])) _
                refine Goes.by (fun _ kz => XS.iload X58.here hx rfl (hb hby at_129) rfl (XS.iload X58.here hx rfl (hb hby at_131) rfl (XS.icmpNo X58.here hx rfl (hb hby at_133) rfl (teq (by decide : (0 : Int32) = (0 : Int32))).2 kz))) ?_
                show Goes p e below (T58.setTop (mkF m 136 #[.val (.long p1), .second, .val (.long p2), .second, .val (.long p3), .second, .val (.long p4), .second, .val (.long p5), .second, .val (.long p6), .second, .val (.long (p1 + p5)), .second, .val (.long (p2 + p6)), .second, .val (.ref b6), .val (.int (0 : Int32)), .val (.int (1 : Int32)), .val (.int (0 : Int32)), .val (.int (0 : Int32))] [])) _
                refine Goes.by (fun _ kz => XS.iconst X58.here hx rfl (hb hby at_136) (XS.goto X58.here hx rfl (pc0 := 137) (pc' := 141) rfl (hb hby at_137) (by decide) (by decide) kz)) ?_
                show Goes p e below (T58.setTop (mkF m 141 #[.val (.long p1), .second, .val (.long p2), .second, .val (.long p3), .second, .val (.long p4), .second, .val (.long p5), .second, .val (.long p6), .second, .val (.long (p1 + p5)), .second, .val (.long (p2 + p6)), .second, .val (.ref b6), .val (.int (0 : Int32)), .val (.int (1 : Int32)), .val (.int (0 : Int32)), .val (.int (0 : Int32))] [(.int (1 : Int32))])) _
                obtain ⟨fs, hr, hrun, hended, hRW⟩ := X58.leaveW (s := s) hS7 (by rw [e58]; exact hk47) (v := some (.int (1 : Int32))) (fun h => by rw [Bd.returns] at h; cases h)
                exact ⟨_, _, retN X58 hx (t := .boolean) Bd.returns (by simp) (hb hby at_141) hr, hrun, hended, _, _, rfl, ⟨rfl, N58⟩, hRW.1, hRW.2.1, hRW.2.2.1, hRW.2.2.2.mono (by decide) (by decide)⟩
          · refine Goes.by (fun _ kz => XS.ifYes X58.here hx rfl (pc0 := 80) (pc' := 87) rfl (hb hby at_80) rfl ((if0 _ _).trans (flt (own_nlt hc71)).2.1) (by decide) (by decide) (XS.iconst X58.here hx rfl (hb hby at_87) (XS.istore X58.here hx rfl (hb hby at_88) rfl (l' := #[.val (.long p1), .second, .val (.long p2), .second, .val (.long p3), .second, .val (.long p4), .second, .val (.long p5), .second, .val (.long p6), .second, .val (.long (p1 + p5)), .second, .val (.long (p2 + p6)), .second, .val (.ref b6), .val (.int (0 : Int32)), .val (.int (0 : Int32)), .unset, .unset]) rfl kz))) ?_
            show Goes p e below (T58.setTop (mkF m 90 #[.val (.long p1), .second, .val (.long p2), .second, .val (.long p3), .second, .val (.long p4), .second, .val (.long p5), .second, .val (.long p6), .second, .val (.long (p1 + p5)), .second, .val (.long (p2 + p6)), .second, .val (.ref b6), .val (.int (0 : Int32)), .val (.int (0 : Int32)), .unset, .unset] [])) _
            refine Goes.by (fun _ kz => XS.lload X58.here hx rfl (hb hby at_90) rfl (XS.lconst X58.here hx rfl (hb hby at_92) (XS.lcmp X58.here hx rfl (hb hby at_93) rfl kz))) ?_
            show Goes p e below (T58.setTop (mkF m 94 #[.val (.long p1), .second, .val (.long p2), .second, .val (.long p3), .second, .val (.long p4), .second, .val (.long p5), .second, .val (.long p6), .second, .val (.long (p1 + p5)), .second, .val (.long (p2 + p6)), .second, .val (.ref b6), .val (.int (0 : Int32)), .val (.int (0 : Int32)), .unset, .unset] [(.int (lcmpW p6 (0 : Int64)))])) _
            by_cases hc74 : p6 < (0 : Int64)
            · refine Goes.by (fun _ kz => XS.ifYes X58.here hx rfl (pc0 := 94) (pc' := 109) rfl (hb hby at_94) rfl ((if0 _ _).trans (tlt (own_lt hc74)).1) (by decide) (by decide) (XS.iconst X58.here hx rfl (hb hby at_109) (XS.istore X58.here hx rfl (hb hby at_110) rfl (l' := #[.val (.long p1), .second, .val (.long p2), .second, .val (.long p3), .second, .val (.long p4), .second, .val (.long p5), .second, .val (.long p6), .second, .val (.long (p1 + p5)), .second, .val (.long (p2 + p6)), .second, .val (.ref b6), .val (.int (0 : Int32)), .val (.int (0 : Int32)), .val (.int (0 : Int32)), .unset]) rfl kz))) ?_
              show Goes p e below (T58.setTop (mkF m 112 #[.val (.long p1), .second, .val (.long p2), .second, .val (.long p3), .second, .val (.long p4), .second, .val (.long p5), .second, .val (.long p6), .second, .val (.long (p1 + p5)), .second, .val (.long (p2 + p6)), .second, .val (.ref b6), .val (.int (0 : Int32)), .val (.int (0 : Int32)), .val (.int (0 : Int32)), .unset] [])) _
              refine Goes.by (fun _ kz => XS.iload X58.here hx rfl (hb hby at_112) rfl (XS.ifYes X58.here hx rfl (pc0 := 114) (pc' := 126) rfl (hb hby at_114) rfl ((if0 _ _).trans (teq (by decide : (0 : Int32) = (0 : Int32))).1) (by decide) (by decide) (XS.iconst X58.here hx rfl (hb hby at_126) kz))) ?_
              show Goes p e below (T58.setTop (mkF m 127 #[.val (.long p1), .second, .val (.long p2), .second, .val (.long p3), .second, .val (.long p4), .second, .val (.long p5), .second, .val (.long p6), .second, .val (.long (p1 + p5)), .second, .val (.long (p2 + p6)), .second, .val (.ref b6), .val (.int (0 : Int32)), .val (.int (0 : Int32)), .val (.int (0 : Int32)), .unset] [(.int (0 : Int32))])) _
              refine Goes.by (fun _ kz => XS.istore X58.here hx rfl (hb hby at_127) rfl (l' := #[.val (.long p1), .second, .val (.long p2), .second, .val (.long p3), .second, .val (.long p4), .second, .val (.long p5), .second, .val (.long p6), .second, .val (.long (p1 + p5)), .second, .val (.long (p2 + p6)), .second, .val (.ref b6), .val (.int (0 : Int32)), .val (.int (0 : Int32)), .val (.int (0 : Int32)), .val (.int (0 : Int32))]) rfl (XS.iload X58.here hx rfl (hb hby at_129) rfl (XS.iload X58.here hx rfl (hb hby at_131) rfl kz))) ?_
              show Goes p e below (T58.setTop (mkF m 133 #[.val (.long p1), .second, .val (.long p2), .second, .val (.long p3), .second, .val (.long p4), .second, .val (.long p5), .second, .val (.long p6), .second, .val (.long (p1 + p5)), .second, .val (.long (p2 + p6)), .second, .val (.ref b6), .val (.int (0 : Int32)), .val (.int (0 : Int32)), .val (.int (0 : Int32)), .val (.int (0 : Int32))] [(.int (0 : Int32)), (.int (0 : Int32))])) _
              refine Goes.by (fun _ kz => XS.icmpNo X58.here hx rfl (hb hby at_133) rfl (teq (by decide : (0 : Int32) = (0 : Int32))).2 (XS.iconst X58.here hx rfl (hb hby at_136) (XS.goto X58.here hx rfl (pc0 := 137) (pc' := 141) rfl (hb hby at_137) (by decide) (by decide) kz))) ?_
              show Goes p e below (T58.setTop (mkF m 141 #[.val (.long p1), .second, .val (.long p2), .second, .val (.long p3), .second, .val (.long p4), .second, .val (.long p5), .second, .val (.long p6), .second, .val (.long (p1 + p5)), .second, .val (.long (p2 + p6)), .second, .val (.ref b6), .val (.int (0 : Int32)), .val (.int (0 : Int32)), .val (.int (0 : Int32)), .val (.int (0 : Int32))] [(.int (1 : Int32))])) _
              obtain ⟨fs, hr, hrun, hended, hRW⟩ := X58.leaveW (s := s) hS7 (by rw [e58]; exact hk47) (v := some (.int (1 : Int32))) (fun h => by rw [Bd.returns] at h; cases h)
              exact ⟨_, _, retN X58 hx (t := .boolean) Bd.returns (by simp) (hb hby at_141) hr, hrun, hended, _, _, rfl, ⟨rfl, N58⟩, hRW.1, hRW.2.1, hRW.2.2.1, hRW.2.2.2.mono (by decide) (by decide)⟩
            · refine Goes.by (fun _ kz => XS.ifNo X58.here hx rfl (hb hby at_94) rfl ((if0 _ _).trans (flt (own_nlt hc74)).1) (XS.lload X58.here hx rfl (hb hby at_97) rfl (XS.lload X58.here hx rfl (hb hby at_99) rfl kz))) ?_
              show Goes p e below (T58.setTop (mkF m 101 #[.val (.long p1), .second, .val (.long p2), .second, .val (.long p3), .second, .val (.long p4), .second, .val (.long p5), .second, .val (.long p6), .second, .val (.long (p1 + p5)), .second, .val (.long (p2 + p6)), .second, .val (.ref b6), .val (.int (0 : Int32)), .val (.int (0 : Int32)), .unset, .unset] [(.long p4), (.long p6)])) _
              refine Goes.by (fun _ kz => XS.lcmp X58.here hx rfl (hb hby at_101) rfl kz) ?_
              show Goes p e below (T58.setTop (mkF m 102 #[.val (.long p1), .second, .val (.long p2), .second, .val (.long p3), .second, .val (.long p4), .second, .val (.long p5), .second, .val (.long p6), .second, .val (.long (p1 + p5)), .second, .val (.long (p2 + p6)), .second, .val (.ref b6), .val (.int (0 : Int32)), .val (.int (0 : Int32)), .unset, .unset] [(.int (lcmpW p6 p4))])) _
              by_cases hc75 : p6 < p4
              · refine Goes.by (fun _ kz => XS.ifNo X58.here hx rfl (hb hby at_102) rfl ((if0 _ _).trans (tlt (own_lt hc75)).2.1) (XS.iconst X58.here hx rfl (hb hby at_105) (XS.goto X58.here hx rfl (pc0 := 106) (pc' := 110) rfl (hb hby at_106) (by decide) (by decide) kz))) ?_
                show Goes p e below (T58.setTop (mkF m 110 #[.val (.long p1), .second, .val (.long p2), .second, .val (.long p3), .second, .val (.long p4), .second, .val (.long p5), .second, .val (.long p6), .second, .val (.long (p1 + p5)), .second, .val (.long (p2 + p6)), .second, .val (.ref b6), .val (.int (0 : Int32)), .val (.int (0 : Int32)), .unset, .unset] [(.int (1 : Int32))])) _
                refine Goes.by (fun _ kz => XS.istore X58.here hx rfl (hb hby at_110) rfl (l' := #[.val (.long p1), .second, .val (.long p2), .second, .val (.long p3), .second, .val (.long p4), .second, .val (.long p5), .second, .val (.long p6), .second, .val (.long (p1 + p5)), .second, .val (.long (p2 + p6)), .second, .val (.ref b6), .val (.int (0 : Int32)), .val (.int (0 : Int32)), .val (.int (1 : Int32)), .unset]) rfl (XS.iload X58.here hx rfl (hb hby at_112) rfl (XS.ifYes X58.here hx rfl (pc0 := 114) (pc' := 126) rfl (hb hby at_114) rfl ((if0 _ _).trans (teq (by decide : (0 : Int32) = (0 : Int32))).1) (by decide) (by decide) kz))) ?_
                show Goes p e below (T58.setTop (mkF m 126 #[.val (.long p1), .second, .val (.long p2), .second, .val (.long p3), .second, .val (.long p4), .second, .val (.long p5), .second, .val (.long p6), .second, .val (.long (p1 + p5)), .second, .val (.long (p2 + p6)), .second, .val (.ref b6), .val (.int (0 : Int32)), .val (.int (0 : Int32)), .val (.int (1 : Int32)), .unset] [])) _
                refine Goes.by (fun _ kz => XS.iconst X58.here hx rfl (hb hby at_126) (XS.istore X58.here hx rfl (hb hby at_127) rfl (l' := #[.val (.long p1), .second, .val (.long p2), .second, .val (.long p3), .second, .val (.long p4), .second, .val (.long p5), .second, .val (.long p6), .second, .val (.long (p1 + p5)), .second, .val (.long (p2 + p6)), .second, .val (.ref b6), .val (.int (0 : Int32)), .val (.int (0 : Int32)), .val (.int (1 : Int32)), .val (.int (0 : Int32))]) rfl (XS.iload X58.here hx rfl (hb hby at_129) rfl kz))) ?_
                show Goes p e below (T58.setTop (mkF m 131 #[.val (.long p1), .second, .val (.long p2), .second, .val (.long p3), .second, .val (.long p4), .second, .val (.long p5), .second, .val (.long p6), .second, .val (.long (p1 + p5)), .second, .val (.long (p2 + p6)), .second, .val (.ref b6), .val (.int (0 : Int32)), .val (.int (0 : Int32)), .val (.int (1 : Int32)), .val (.int (0 : Int32))] [(.int (0 : Int32))])) _
                refine Goes.by (fun _ kz => XS.iload X58.here hx rfl (hb hby at_131) rfl (XS.icmpNo X58.here hx rfl (hb hby at_133) rfl (teq (by decide : (0 : Int32) = (0 : Int32))).2 (XS.iconst X58.here hx rfl (hb hby at_136) kz))) ?_
                show Goes p e below (T58.setTop (mkF m 137 #[.val (.long p1), .second, .val (.long p2), .second, .val (.long p3), .second, .val (.long p4), .second, .val (.long p5), .second, .val (.long p6), .second, .val (.long (p1 + p5)), .second, .val (.long (p2 + p6)), .second, .val (.ref b6), .val (.int (0 : Int32)), .val (.int (0 : Int32)), .val (.int (1 : Int32)), .val (.int (0 : Int32))] [(.int (1 : Int32))])) _
                refine Goes.by (fun _ kz => XS.goto X58.here hx rfl (pc0 := 137) (pc' := 141) rfl (hb hby at_137) (by decide) (by decide) kz) ?_
                show Goes p e below (T58.setTop (mkF m 141 #[.val (.long p1), .second, .val (.long p2), .second, .val (.long p3), .second, .val (.long p4), .second, .val (.long p5), .second, .val (.long p6), .second, .val (.long (p1 + p5)), .second, .val (.long (p2 + p6)), .second, .val (.ref b6), .val (.int (0 : Int32)), .val (.int (0 : Int32)), .val (.int (1 : Int32)), .val (.int (0 : Int32))] [(.int (1 : Int32))])) _
                obtain ⟨fs, hr, hrun, hended, hRW⟩ := X58.leaveW (s := s) hS7 (by rw [e58]; exact hk47) (v := some (.int (1 : Int32))) (fun h => by rw [Bd.returns] at h; cases h)
                exact ⟨_, _, retN X58 hx (t := .boolean) Bd.returns (by simp) (hb hby at_141) hr, hrun, hended, _, _, rfl, ⟨rfl, N58⟩, hRW.1, hRW.2.1, hRW.2.2.1, hRW.2.2.2.mono (by decide) (by decide)⟩
              · refine Goes.by (fun _ kz => XS.ifYes X58.here hx rfl (pc0 := 102) (pc' := 109) rfl (hb hby at_102) rfl ((if0 _ _).trans (flt (own_nlt hc75)).2.1) (by decide) (by decide) (XS.iconst X58.here hx rfl (hb hby at_109) (XS.istore X58.here hx rfl (hb hby at_110) rfl (l' := #[.val (.long p1), .second, .val (.long p2), .second, .val (.long p3), .second, .val (.long p4), .second, .val (.long p5), .second, .val (.long p6), .second, .val (.long (p1 + p5)), .second, .val (.long (p2 + p6)), .second, .val (.ref b6), .val (.int (0 : Int32)), .val (.int (0 : Int32)), .val (.int (0 : Int32)), .unset]) rfl kz))) ?_
                show Goes p e below (T58.setTop (mkF m 112 #[.val (.long p1), .second, .val (.long p2), .second, .val (.long p3), .second, .val (.long p4), .second, .val (.long p5), .second, .val (.long p6), .second, .val (.long (p1 + p5)), .second, .val (.long (p2 + p6)), .second, .val (.ref b6), .val (.int (0 : Int32)), .val (.int (0 : Int32)), .val (.int (0 : Int32)), .unset] [])) _
                refine Goes.by (fun _ kz => XS.iload X58.here hx rfl (hb hby at_112) rfl (XS.ifYes X58.here hx rfl (pc0 := 114) (pc' := 126) rfl (hb hby at_114) rfl ((if0 _ _).trans (teq (by decide : (0 : Int32) = (0 : Int32))).1) (by decide) (by decide) (XS.iconst X58.here hx rfl (hb hby at_126) kz))) ?_
                show Goes p e below (T58.setTop (mkF m 127 #[.val (.long p1), .second, .val (.long p2), .second, .val (.long p3), .second, .val (.long p4), .second, .val (.long p5), .second, .val (.long p6), .second, .val (.long (p1 + p5)), .second, .val (.long (p2 + p6)), .second, .val (.ref b6), .val (.int (0 : Int32)), .val (.int (0 : Int32)), .val (.int (0 : Int32)), .unset] [(.int (0 : Int32))])) _
                refine Goes.by (fun _ kz => XS.istore X58.here hx rfl (hb hby at_127) rfl (l' := #[.val (.long p1), .second, .val (.long p2), .second, .val (.long p3), .second, .val (.long p4), .second, .val (.long p5), .second, .val (.long p6), .second, .val (.long (p1 + p5)), .second, .val (.long (p2 + p6)), .second, .val (.ref b6), .val (.int (0 : Int32)), .val (.int (0 : Int32)), .val (.int (0 : Int32)), .val (.int (0 : Int32))]) rfl (XS.iload X58.here hx rfl (hb hby at_129) rfl (XS.iload X58.here hx rfl (hb hby at_131) rfl kz))) ?_
                show Goes p e below (T58.setTop (mkF m 133 #[.val (.long p1), .second, .val (.long p2), .second, .val (.long p3), .second, .val (.long p4), .second, .val (.long p5), .second, .val (.long p6), .second, .val (.long (p1 + p5)), .second, .val (.long (p2 + p6)), .second, .val (.ref b6), .val (.int (0 : Int32)), .val (.int (0 : Int32)), .val (.int (0 : Int32)), .val (.int (0 : Int32))] [(.int (0 : Int32)), (.int (0 : Int32))])) _
                refine Goes.by (fun _ kz => XS.icmpNo X58.here hx rfl (hb hby at_133) rfl (teq (by decide : (0 : Int32) = (0 : Int32))).2 (XS.iconst X58.here hx rfl (hb hby at_136) (XS.goto X58.here hx rfl (pc0 := 137) (pc' := 141) rfl (hb hby at_137) (by decide) (by decide) kz))) ?_
                show Goes p e below (T58.setTop (mkF m 141 #[.val (.long p1), .second, .val (.long p2), .second, .val (.long p3), .second, .val (.long p4), .second, .val (.long p5), .second, .val (.long p6), .second, .val (.long (p1 + p5)), .second, .val (.long (p2 + p6)), .second, .val (.ref b6), .val (.int (0 : Int32)), .val (.int (0 : Int32)), .val (.int (0 : Int32)), .val (.int (0 : Int32))] [(.int (1 : Int32))])) _
                obtain ⟨fs, hr, hrun, hended, hRW⟩ := X58.leaveW (s := s) hS7 (by rw [e58]; exact hk47) (v := some (.int (1 : Int32))) (fun h => by rw [Bd.returns] at h; cases h)
                exact ⟨_, _, retN X58 hx (t := .boolean) Bd.returns (by simp) (hb hby at_141) hr, hrun, hended, _, _, rfl, ⟨rfl, N58⟩, hRW.1, hRW.2.1, hRW.2.2.1, hRW.2.2.2.mono (by decide) (by decide)⟩
set_option maxRecDepth 65536 in
set_option maxHeartbeats 40000000 in
theorem comes_1 {Post : Tables → Env → Array Value → State → Outcome → State → Prop} (hpost : ∀ tb e args s v u, (limb_1_1.after args s (.returned v) u = true ∧ limb_1_2.after args s (.returned v) u = true ∧ True) → ReturnedEndW s (.returned v) u (Jvm.fieldLocs frame_1_writes args s ++ Jvm.arrayLocs frame_1_arrays args s ++ Jvm.staticLocs frame_1_statics s) 16 1152 → Post tb e args s (.returned v) u) :
    ArmFor flags0 classFile x code maxLocals ret World_1 tables_1 room_1 Calls_1 rest_1 Pre_1 Post := by
  intro l hfl _ _ p e ha hc hk s m args below hf hA hF happ hP
  obtain ⟨hcalls, hrest, hpre⟩ := hP
  obtain ⟨-, -, -, hnamed, -, -, -, hat⟩ := (Spec.applies_iff hf).mp happ
  obtain ⟨hg, hn⟩ := and_e (Cond.before_iff.mp (show (Jvm.Cond.and given_1 narrow_1).before args s = true from hpre))
  obtain ⟨a1, b1⟩ := and_e hg
  obtain ⟨a2, b2⟩ := and_e b1
  obtain ⟨a3, b3⟩ := and_e b2
  obtain ⟨a4, b4⟩ := and_e b3
  obtain ⟨a5, b5⟩ := and_e b4
  obtain ⟨a6, b6⟩ := and_e b5
  obtain ⟨w0, w1, w2, w3, w4, w5, rfl⟩ : ∃ w0 w1 w2 w3 w4 w5 : Value, args = #[w0, w1, w2, w3, w4, w5] := by
    have hs : args.size = 6 := by simpa [Cond.value, given_1] using a1
    obtain ⟨L⟩ := args
    match L, hs with
    | [w0, w1, w2, w3, w4, w5], _ => exact ⟨w0, w1, w2, w3, w4, w5, rfl⟩
  have hw := fun d (hd : d ∈ tables_1) => atoms_spec (ws := Jvm.Cond.code x code maxLocals ret :: tables_1) hat d (List.mem_cons_of_mem _ hd)
  obtain ⟨i0, ei0⟩ := isL_v a2
  obtain rfl : w0 = (.long i0) := Option.some.inj ei0
  obtain ⟨i1, ei1⟩ := isL_v a3
  obtain rfl : w1 = (.long i1) := Option.some.inj ei1
  obtain ⟨i2, ei2⟩ := isL_v a4
  obtain rfl : w2 = (.long i2) := Option.some.inj ei2
  obtain ⟨i3, ei3⟩ := isL_v a5
  obtain rfl : w3 = (.long i3) := Option.some.inj ei3
  obtain ⟨i4, ei4⟩ := isL_v a6
  obtain rfl : w4 = (.long i4) := Option.some.inj ei4
  obtain ⟨i5, ei5⟩ := isL_v b6
  obtain rfl : w5 = (.long i5) := Option.some.inj ei5
  have q0 := hn
  obtain ⟨v0, ev0⟩ := exa_v q0
  have S0 := Sta.start ev0 (Or.inr ⟨(hw _ (List.mem_of_getElem? (i := 16) rfl)), (hw _ (List.mem_of_getElem? (i := 17) rfl))⟩)
  have E0 := Exa.start ev0 q0
  have P : Pins s s.heap (fun i => [v0].getD i 0) := ⟨S0, E0⟩
  obtain ⟨n, o, h1, h2, h3, _, L, rfl, ⟨rfl, N⟩, hq⟩ := rm0 l s _ hw tables_1 s.heap s.heap.size (Nat.le_refl _) i0 i1 i2 i3 i4 i5 (fun i => [v0].getD i 0) P  p e ha hc hk s m _ below hf ((Spec.applies_iff_loose hf).mp happ).1 ⟨rfl, State.Warmed39.refl s, rfl⟩ trivial
  refine ⟨n, _, h1, h2, h3, hpost _ _ _ _ _ _ ⟨Cond.after_iff.mpr rfl, Cond.after_iff.mpr (eq_i res_at (Term.int_eval (1)) rfl), trivial⟩ ⟨hq.1, hq.2.1, hq.2.2.1, (hq.2.2.2.sift fun y hy => Or.inr (N y hy)).mono (by decide) (by decide)⟩⟩
theorem main_1_1 : Claimed_1_1 := comes_1 fun _ _ _ _ _ _ h hF => ⟨h.1, hF⟩
theorem main_1_2 : Claimed_1_2 := comes_1 fun _ _ _ _ _ _ h hF => ⟨h.2.1, hF⟩
end Jvm.Pilot.@@N@@
namespace Jvm.Pilot.@@N@@
open Jvm Jvm.ClassFile Sem Op Lib Jvm.Free Jvm.Stand Jvm.Pilot.@@N@@.Jvm.D
/-! MADE BY PROGRAM (witnessworld.py) out of the Statement's table words and the real class files: 17 classes; the members and pool entries that the words name. The judged class is class 1, her method 2. -/
namespace start1
open Jvm.ClassFile
def u (s : String) : CpInfo := .utf8 (stringToUtf16 s)
/-- a pool by its gaps: so many unusable entries, then the entry; so many at the end -/
def gap : Nat → List CpInfo → List CpInfo
  | 0, r => r
  | n + 1, r => .unusable :: gap n r
def poolList (es : List (Nat × CpInfo)) (last : Nat) : List CpInfo := es.foldr (fun e r => gap e.1 (e.2 :: r)) (gap last [])
def pool (es : List (Nat × CpInfo)) (last : Nat) : Array CpInfo := ⟨poolList es last⟩
def fileOf (pool : Array CpInfo) (this : Nat) (attrs : Array Attribute := #[]) (ms : Array MethodInfo := #[]) (fl : Nat := 33) (sup : Nat := 0) (ifs : Array Nat := #[]) (fds : Array FieldInfo := #[]) : ClassFile where
  minorVersion := 0
  majorVersion := 65
  constantPool := pool
  accessFlags := fl
  thisClass := this
  superClass := sup
  interfaces := ifs
  fields := fds
  methods := ms
  attributes := attrs
def plain (name : String) (sup : Option ClassId) : Class where
  name := name
  kind := .ordinary
  loader := none
  accessFlags := 33
  super := sup
  interfaces := #[]
  cf := none
  fields := #[]
  methods := #[]
  instanceTypes := #[]
  staticTypes := #[]
  resolved := #[]
  callSites := []
  init := .initialized
  statics := none
  mirror := none

def pool0 : Array CpInfo := pool [(5, u "<init>"), (0, u "()V"), (1, .class_ 10), (1, u "java/lang/Object")] 113

def k0c0 : Code := { maxStack := 0, maxLocals := 1, code := object_method_1_code, exceptionTable := #[], attributes := #[] }
def k0m0 : Method := { name := "<init>", desc := "()V", sig := { parameters := [], returnType := none }, accessFlags := 1, code := some k0c0 }
/-- java/lang/Object -/
def k0 : Class := { plain "java/lang/Object" none with
  accessFlags := 33
  interfaces := #[]
  cf := some (fileOf pool0 8 #[] #[{ accessFlags := 1, nameIndex := 5, descriptorIndex := 6, attributes := #[] }] 33 0 #[] #[])
  fields := #[]
  methods := #[k0m0]
  instanceTypes := #[]
  staticTypes := #[]
  resolved := Array.replicate 124 none
  statics := none }

def pool1 : Array CpInfo := pool [(2, .class_ 4), (1, u "java/lang/Object"), (0, u "<init>"), (0, u "()V"), (0, .methodref 8 9), (0, .class_ 10), (0, .nameAndType 11 12), (0, u "com/example/killdeer/killdeer/GadgetViewContainsPinLaw"), (0, u "wraps"), (0, u "(JJJ)Z"), (0, .class_ 14), (0, u "com/example/killdeer/killdeer/GadgetView"), (0, .string 16), (0, u ""), (0, .fieldref 18 19), (0, .class_ 20), (0, .nameAndType 21 22), (0, u "com/example/killdeer/killdeer/GadgetView$Obscured"), (0, u "NONE"), (0, u "Lcom/example/killdeer/killdeer/GadgetView$Obscured;"), (0, .methodref 13 24), (0, .nameAndType 5 25), (0, u "(ZLjava/lang/String;JJJJLcom/example/killdeer/killdeer/GadgetView$Obscured;)V"), (0, .methodref 13 27), (0, .nameAndType 28 29), (0, u "contains"), (0, u "(JJ)Z"), (3, u "law"), (0, u "(JJJJJJ)Z")] 4

def k1m0 : Method := { name := "<init>", desc := "()V", sig := { parameters := [], returnType := none }, accessFlags := 1, code := none }
def k1c1 : Code := { maxStack := 4, maxLocals := 6, code := method_2_code, exceptionTable := #[], attributes := #[] }
def k1m1 : Method := { name := "wraps", desc := "(JJJ)Z", sig := { parameters := [.long, .long, .long], returnType := some .boolean }, accessFlags := 10, code := some k1c1 }
def k1c2 : Code := { maxStack := 13, maxLocals := 21, code := code, exceptionTable := #[], attributes := #[] }
def k1m2 : Method := { name := "law", desc := "(JJJJJJ)Z", sig := { parameters := [.long, .long, .long, .long, .long, .long], returnType := some .boolean }, accessFlags := 9, code := some k1c2 }
/-- com/example/killdeer/killdeer/GadgetViewContainsPinLaw -/
def k1 : Class := { plain "com/example/killdeer/killdeer/GadgetViewContainsPinLaw" (some 0) with
  accessFlags := 49
  interfaces := #[]
  cf := some (fileOf pool1 8 #[] #[{ accessFlags := 1, nameIndex := 5, descriptorIndex := 6, attributes := #[] }, { accessFlags := 10, nameIndex := 11, descriptorIndex := 12, attributes := #[] }, { accessFlags := 9, nameIndex := 33, descriptorIndex := 34, attributes := #[] }] 49 2 #[] #[])
  fields := #[]
  methods := #[k1m0, k1m1, k1m2]
  instanceTypes := #[]
  staticTypes := #[]
  resolved := Array.replicate 39 none
  statics := none }

def pool2 : Array CpInfo := pool [(1, .methodref 2 3), (0, .class_ 4), (0, .nameAndType 5 6), (0, u "java/lang/Object"), (0, u "<init>"), (0, u "()V"), (0, .fieldref 8 9), (0, .class_ 10), (0, .nameAndType 11 12), (0, u "com/example/killdeer/killdeer/GadgetView"), (0, u "visible"), (0, u "Z"), (0, .fieldref 8 14), (0, .nameAndType 15 16), (0, u "appearance"), (0, u "Ljava/lang/String;"), (0, .fieldref 8 18), (0, .nameAndType 19 20), (0, u "x"), (0, u "J"), (0, .fieldref 8 22), (0, .nameAndType 23 20), (0, u "y"), (0, .fieldref 8 25), (0, .nameAndType 26 20), (0, u "width"), (0, .fieldref 8 28), (0, .nameAndType 29 20), (0, u "height"), (0, .fieldref 8 31), (0, .nameAndType 32 33), (0, u "obscured"), (0, u "Lcom/example/killdeer/killdeer/GadgetView$Obscured;"), (1, .class_ 37), (1, u "com/example/killdeer/killdeer/GadgetView$Obscured"), (24, u "(ZLjava/lang/String;JJJJLcom/example/killdeer/killdeer/GadgetView$Obscured;)V"), (5, u "contains"), (0, u "(JJ)Z")] 7

def k2c0 : Code := { maxStack := 3, maxLocals := 12, code := prog_16_method_1_code, exceptionTable := #[], attributes := #[] }
def k2m0 : Method := { name := "<init>", desc := "(ZLjava/lang/String;JJJJLcom/example/killdeer/killdeer/GadgetView$Obscured;)V", sig := { parameters := [.boolean, (.object "java/lang/String"), .long, .long, .long, .long, (.object "com/example/killdeer/killdeer/GadgetView$Obscured")], returnType := none }, accessFlags := 1, code := some k2c0 }
def k2c1 : Code := { maxStack := 4, maxLocals := 5, code := prog_16_method_3_code, exceptionTable := #[], attributes := #[] }
def k2m1 : Method := { name := "contains", desc := "(JJ)Z", sig := { parameters := [.long, .long], returnType := some .boolean }, accessFlags := 1, code := some k2c1 }
/-- com/example/killdeer/killdeer/GadgetView -/
def k2 : Class := { plain "com/example/killdeer/killdeer/GadgetView" (some 0) with
  accessFlags := 33
  interfaces := #[]
  cf := some (fileOf pool2 8 #[.nestMembers #[35]] #[{ accessFlags := 1, nameIndex := 5, descriptorIndex := 62, attributes := #[] }, { accessFlags := 1, nameIndex := 68, descriptorIndex := 69, attributes := #[] }] 33 2 #[] #[{ accessFlags := 18, nameIndex := 11, descriptorIndex := 12, attributes := #[] }, { accessFlags := 18, nameIndex := 15, descriptorIndex := 16, attributes := #[] }, { accessFlags := 18, nameIndex := 19, descriptorIndex := 20, attributes := #[] }, { accessFlags := 18, nameIndex := 23, descriptorIndex := 20, attributes := #[] }, { accessFlags := 18, nameIndex := 26, descriptorIndex := 20, attributes := #[] }, { accessFlags := 18, nameIndex := 29, descriptorIndex := 20, attributes := #[] }, { accessFlags := 18, nameIndex := 32, descriptorIndex := 33, attributes := #[] }])
  fields := #[{ name := "visible", type := .boolean, accessFlags := 18, slot := 0, constantValue := 0 }, { name := "appearance", type := (.object "java/lang/String"), accessFlags := 18, slot := 1, constantValue := 0 }, { name := "x", type := .long, accessFlags := 18, slot := 2, constantValue := 0 }, { name := "y", type := .long, accessFlags := 18, slot := 3, constantValue := 0 }, { name := "width", type := .long, accessFlags := 18, slot := 4, constantValue := 0 }, { name := "height", type := .long, accessFlags := 18, slot := 5, constantValue := 0 }, { name := "obscured", type := (.object "com/example/killdeer/killdeer/GadgetView$Obscured"), accessFlags := 18, slot := 6, constantValue := 0 }]
  methods := #[k2m0, k2m1]
  instanceTypes := #[.boolean, (.object "java/lang/String"), .long, .long, .long, .long, (.object "com/example/killdeer/killdeer/GadgetView$Obscured")]
  staticTypes := #[]
  resolved := Array.replicate 77 none
  statics := none }

def pool3 : Array CpInfo := pool [(1, .class_ 2), (0, u "java/io/Serializable"), (0, .class_ 4), (0, u "java/lang/Object")] 2

/-- java/io/Serializable -/
def k3 : Class := { plain "java/io/Serializable" (some 0) with
  accessFlags := 1537
  interfaces := #[]
  cf := some (fileOf pool3 1 #[] #[] 1537 3 #[] #[])
  fields := #[]
  methods := #[]
  instanceTypes := #[]
  staticTypes := #[]
  resolved := Array.replicate 7 none
  statics := none }

def pool4 : Array CpInfo := pool [(1, .class_ 2), (0, u "java/lang/Comparable"), (0, .class_ 4), (0, u "java/lang/Object")] 7

/-- java/lang/Comparable -/
def k4 : Class := { plain "java/lang/Comparable" (some 0) with
  accessFlags := 1537
  interfaces := #[]
  cf := some (fileOf pool4 1 #[] #[] 1537 3 #[] #[])
  fields := #[]
  methods := #[]
  instanceTypes := #[]
  staticTypes := #[]
  resolved := Array.replicate 12 none
  statics := none }

def pool5 : Array CpInfo := pool [(2, .class_ 4), (1, u "java/lang/CharSequence"), (42, .class_ 48), (0, u "java/lang/CharSequence$1CodePointIterator"), (10, .class_ 60), (0, u "java/lang/CharSequence$1CharIterator"), (5, .class_ 67), (0, u "java/lang/Object")] 63

/-- java/lang/CharSequence -/
def k5 : Class := { plain "java/lang/CharSequence" (some 0) with
  accessFlags := 1537
  interfaces := #[]
  cf := some (fileOf pool5 2 #[.nestMembers #[47, 59]] #[] 1537 66 #[] #[])
  fields := #[]
  methods := #[]
  instanceTypes := #[]
  staticTypes := #[]
  resolved := Array.replicate 131 none
  statics := none }

def pool6 : Array CpInfo := pool [(1, .class_ 2), (0, u "java/lang/constant/Constable"), (0, .class_ 4), (0, u "java/lang/Object")] 6

/-- java/lang/constant/Constable -/
def k6 : Class := { plain "java/lang/constant/Constable" (some 0) with
  accessFlags := 1537
  interfaces := #[]
  cf := some (fileOf pool6 1 #[] #[] 1537 3 #[] #[])
  fields := #[]
  methods := #[]
  instanceTypes := #[]
  staticTypes := #[]
  resolved := Array.replicate 11 none
  statics := none }

def pool7 : Array CpInfo := pool [(1, .class_ 2), (0, u "java/lang/constant/ConstantDesc"), (0, .class_ 4), (0, u "java/lang/Object")] 32

/-- java/lang/constant/ConstantDesc -/
def k7 : Class := { plain "java/lang/constant/ConstantDesc" (some 0) with
  accessFlags := 1537
  interfaces := #[]
  cf := some (fileOf pool7 1 #[] #[] 1537 3 #[] #[])
  fields := #[]
  methods := #[]
  instanceTypes := #[]
  staticTypes := #[]
  resolved := Array.replicate 37 none
  statics := none }

def pool8 : Array CpInfo := pool [(2, .class_ 4), (1, u "java/lang/Object"), (0, u "<init>"), (0, u "()V"), (3, .class_ 12), (1, u "java/lang/String"), (0, u "value"), (0, u "[B"), (2, u "coder"), (0, u "B"), (2, u "hash"), (0, u "I"), (2, u "hashIsZero"), (0, u "Z"), (13, u "COMPACT_STRINGS"), (534, .class_ 576), (0, u "java/lang/CharSequence"), (22, u "CASE_INSENSITIVE_ORDER"), (0, u "Ljava/util/Comparator;"), (500, u "serialPersistentFields"), (0, u "[Ljava/io/ObjectStreamField;"), (0, .class_ 1104), (0, u "java/lang/String$CaseInsensitiveComparator"), (1, .class_ 1107), (0, u "java/io/Serializable"), (0, .class_ 1109), (0, u "java/lang/Comparable"), (0, .class_ 1111), (0, u "java/lang/constant/Constable"), (0, .class_ 1113), (0, u "java/lang/constant/ConstantDesc"), (2, u "serialVersionUID"), (0, u "J"), (3, u "REPL"), (0, u "C"), (2, u "LATIN1"), (1, u "UTF16")] 323

def k8m0 : Method := { name := "<init>", desc := "()V", sig := { parameters := [], returnType := none }, accessFlags := 1, code := none }
/-- java/lang/String -/
def k8 : Class := { plain "java/lang/String" (some 0) with
  accessFlags := 49
  interfaces := #[3, 4, 5, 6, 7]
  cf := some (fileOf pool8 10 #[.nestMembers #[1103]] #[{ accessFlags := 1, nameIndex := 5, descriptorIndex := 6, attributes := #[] }] 49 2 #[1106, 1108, 575, 1110, 1112] #[{ accessFlags := 18, nameIndex := 13, descriptorIndex := 14, attributes := #[] }, { accessFlags := 18, nameIndex := 17, descriptorIndex := 18, attributes := #[] }, { accessFlags := 2, nameIndex := 21, descriptorIndex := 22, attributes := #[] }, { accessFlags := 2, nameIndex := 25, descriptorIndex := 26, attributes := #[] }, { accessFlags := 26, nameIndex := 1116, descriptorIndex := 1117, attributes := #[] }, { accessFlags := 24, nameIndex := 40, descriptorIndex := 26, attributes := #[] }, { accessFlags := 26, nameIndex := 1101, descriptorIndex := 1102, attributes := #[] }, { accessFlags := 26, nameIndex := 1121, descriptorIndex := 1122, attributes := #[] }, { accessFlags := 25, nameIndex := 599, descriptorIndex := 600, attributes := #[] }, { accessFlags := 24, nameIndex := 1125, descriptorIndex := 18, attributes := #[] }, { accessFlags := 24, nameIndex := 1127, descriptorIndex := 18, attributes := #[] }])
  fields := #[{ name := "value", type := (.array .byte), accessFlags := 18, slot := 0, constantValue := 0 }, { name := "coder", type := .byte, accessFlags := 18, slot := 1, constantValue := 0 }, { name := "hash", type := .int, accessFlags := 2, slot := 2, constantValue := 0 }, { name := "hashIsZero", type := .boolean, accessFlags := 2, slot := 3, constantValue := 0 }, { name := "serialVersionUID", type := .long, accessFlags := 26, slot := 0, constantValue := 0 }, { name := "COMPACT_STRINGS", type := .boolean, accessFlags := 24, slot := 1, constantValue := 0 }, { name := "serialPersistentFields", type := (.array (.object "java/io/ObjectStreamField")), accessFlags := 26, slot := 2, constantValue := 0 }, { name := "REPL", type := .char, accessFlags := 26, slot := 3, constantValue := 0 }, { name := "CASE_INSENSITIVE_ORDER", type := (.object "java/util/Comparator"), accessFlags := 25, slot := 4, constantValue := 0 }, { name := "LATIN1", type := .byte, accessFlags := 24, slot := 5, constantValue := 0 }, { name := "UTF16", type := .byte, accessFlags := 24, slot := 6, constantValue := 0 }]
  methods := #[k8m0]
  instanceTypes := #[(.array .byte), .byte, .int, .boolean]
  staticTypes := #[.long, .boolean, (.array (.object "java/io/ObjectStreamField")), .char, (.object "java/util/Comparator"), .byte, .byte]
  resolved := Array.replicate 1451 none
  statics := none }

def pool9 : Array CpInfo := pool [(2, .class_ 4), (1, u "java/lang/Enum"), (0, u "name"), (0, u "Ljava/lang/String;"), (2, u "ordinal"), (0, u "I"), (1, .class_ 14), (1, u "java/lang/Object"), (4, u "hash"), (86, .class_ 108), (1, u "java/lang/Enum$EnumDesc"), (2, .class_ 112), (0, u "java/lang/constant/Constable"), (0, .class_ 114), (0, u "java/lang/Comparable"), (0, .class_ 116), (0, u "java/io/Serializable")] 87

/-- java/lang/Enum -/
def k9 : Class := { plain "java/lang/Enum" (some 0) with
  accessFlags := 1057
  interfaces := #[6, 4, 3]
  cf := some (fileOf pool9 2 #[.nestMembers #[106]] #[] 1057 12 #[111, 113, 115] #[{ accessFlags := 18, nameIndex := 5, descriptorIndex := 6, attributes := #[] }, { accessFlags := 18, nameIndex := 9, descriptorIndex := 10, attributes := #[] }, { accessFlags := 2, nameIndex := 19, descriptorIndex := 10, attributes := #[] }])
  fields := #[{ name := "name", type := (.object "java/lang/String"), accessFlags := 18, slot := 0, constantValue := 0 }, { name := "ordinal", type := .int, accessFlags := 18, slot := 1, constantValue := 0 }, { name := "hash", type := .int, accessFlags := 2, slot := 2, constantValue := 0 }]
  methods := #[]
  instanceTypes := #[(.object "java/lang/String"), .int, .int]
  staticTypes := #[]
  resolved := Array.replicate 204 none
  statics := none }

def pool10 : Array CpInfo := pool [(9, .class_ 10), (0, u "com/example/killdeer/killdeer/Keyword"), (20, .class_ 32), (0, u "java/lang/Object")] 9

/-- com/example/killdeer/killdeer/Keyword -/
def k10 : Class := { plain "com/example/killdeer/killdeer/Keyword" (some 0) with
  accessFlags := 1537
  interfaces := #[]
  cf := some (fileOf pool10 9 #[] #[] 1537 31 #[] #[])
  fields := #[]
  methods := #[]
  instanceTypes := #[]
  staticTypes := #[]
  resolved := Array.replicate 42 none
  statics := none }

def pool11 : Array CpInfo := pool [(1, .class_ 2), (0, u "com/example/killdeer/killdeer/GadgetView$Obscured"), (2, u "NONE"), (0, u "Lcom/example/killdeer/killdeer/GadgetView$Obscured;"), (2, u "PARTIAL"), (2, u "FULL"), (2, u "$VALUES"), (0, u "[Lcom/example/killdeer/killdeer/GadgetView$Obscured;"), (6, .class_ 25), (1, u "java/lang/Enum"), (8, u "word"), (0, u "Ljava/lang/String;"), (16, .class_ 53), (0, u "com/example/killdeer/killdeer/Keyword"), (15, .class_ 70), (0, u "com/example/killdeer/killdeer/GadgetView")] 2

/-- com/example/killdeer/killdeer/GadgetView$Obscured -/
def k11 : Class := { plain "com/example/killdeer/killdeer/GadgetView$Obscured" (some 9) with
  accessFlags := 16433
  interfaces := #[10]
  cf := some (fileOf pool11 1 #[.nestHost 69] #[] 16433 23 #[52] #[{ accessFlags := 16409, nameIndex := 5, descriptorIndex := 6, attributes := #[] }, { accessFlags := 16409, nameIndex := 9, descriptorIndex := 6, attributes := #[] }, { accessFlags := 16409, nameIndex := 12, descriptorIndex := 6, attributes := #[] }, { accessFlags := 18, nameIndex := 34, descriptorIndex := 35, attributes := #[] }, { accessFlags := 4122, nameIndex := 15, descriptorIndex := 16, attributes := #[] }])
  fields := #[{ name := "NONE", type := (.object "com/example/killdeer/killdeer/GadgetView$Obscured"), accessFlags := 16409, slot := 0, constantValue := 0 }, { name := "PARTIAL", type := (.object "com/example/killdeer/killdeer/GadgetView$Obscured"), accessFlags := 16409, slot := 1, constantValue := 0 }, { name := "FULL", type := (.object "com/example/killdeer/killdeer/GadgetView$Obscured"), accessFlags := 16409, slot := 2, constantValue := 0 }, { name := "word", type := (.object "java/lang/String"), accessFlags := 18, slot := 3, constantValue := 0 }, { name := "$VALUES", type := (.array (.object "com/example/killdeer/killdeer/GadgetView$Obscured")), accessFlags := 4122, slot := 3, constantValue := 0 }]
  methods := #[]
  instanceTypes := #[(.object "java/lang/String"), .int, .int, (.object "java/lang/String")]
  staticTypes := #[(.object "com/example/killdeer/killdeer/GadgetView$Obscured"), (.object "com/example/killdeer/killdeer/GadgetView$Obscured"), (.object "com/example/killdeer/killdeer/GadgetView$Obscured"), (.array (.object "com/example/killdeer/killdeer/GadgetView$Obscured"))]
  resolved := Array.replicate 73 none
  statics := some 0 }

def pool12 : Array CpInfo := pool [(1, u "java/lang/Cloneable"), (0, .class_ 1), (0, u "java/lang/Object"), (0, .class_ 3)] 3

/-- java/lang/Cloneable -/
def k12 : Class := { plain "java/lang/Cloneable" (some 0) with
  accessFlags := 1537
  interfaces := #[]
  cf := some (fileOf pool12 2 #[] #[] 1537 4 #[] #[])
  fields := #[]
  methods := #[]
  instanceTypes := #[]
  staticTypes := #[]
  resolved := Array.replicate 8 none
  statics := none }

/-- the primitive byte -/
def k13 : Class := { plain "byte" none with kind := .primitive 'B', accessFlags := 0x411 }
/-- [B -/
def k14 : Class := { plain "[B" (some 0) with kind := .array 13 .byte, interfaces := #[12, 3], accessFlags := 1041 }

/-- the primitive int -/
def k15 : Class := { plain "int" none with kind := .primitive 'I', accessFlags := 0x411 }
/-- [I -/
def k16 : Class := { plain "[I" (some 0) with kind := .array 15 .int, interfaces := #[12, 3], accessFlags := 1041 }

def heap : Heap := #[{ cls := 11, slots := #[.ref 1, .null, .null, .null], vm := .statics 11 },
  { cls := 11, slots := #[.null, .int 0, .int 0, .null], vm := .none }]
def classes : Array Class := #[k0, k1, k2, k3, k4, k5, k6, k7, k8, k9, k10, k11, k12, k13, k14, k15, k16]
def interned : List (Array UInt16 × Addr) := []
def slotsUsed : Nat := 8
def theMethod : MethodId := ⟨1, 2⟩
def args0 : Array Value := #[.long 5, .long 7, .long 1, .long 2, .long 3, .long 4]
def aboutOver (below : List Frame) : State where
  vm := { classes := classes, interned := interned.toArray }
  heap := heap
  slotsUsed := slotsUsed
  threads := #[{ frames := .invoking theMethod args0 :: below }]
def below0 : List Frame := [.native { method := ⟨0, 0⟩, args := #[] }]
def about1 : State := aboutOver below0
def p0 : Program := .bare "" "" ""
def e0 : Env := launch0.env 0 0 0
theorem w_frames : about1.frames = Frame.invoking theMethod args0 :: below0 := rfl
set_option maxRecDepth 65536 in
theorem w_args : argsFit about1.vm theMethod args0 = true := by decide +kernel
set_option maxRecDepth 65536 in
theorem w_heap : heapFits about1 = true := by decide +kernel
set_option maxRecDepth 65536 in
theorem w_runnable : about1.curStatus? = some .runnable := by decide +kernel
set_option maxRecDepth 65536 in
theorem w_alone : about1.alone = true := by decide +kernel
set_option maxRecDepth 65536 in
theorem w_named : about1.methodNamed? x = some theMethod := by decide +kernel
set_option maxRecDepth 65536 in
theorem w_hears : about1.hears theMethod below0 = true := by decide +kernel
set_option maxRecDepth 65536 in
theorem w_ripe : about1.ripe theMethod args0 below0 = true := by decide +kernel
theorem w_running : about1.status = .running := rfl
set_option maxRecDepth 65536 in
theorem w_room : about1.hasRoom e0.platform room_1 = true :=
  launch0.hasRoom_least _ room_1 (by decide +kernel) (by decide +kernel) (by decide +kernel) (by decide +kernel) (by decide +kernel) (by decide +kernel)
theorem allAtoms_all (ts : List Jvm.Cond) (a : Array Jvm.Value) (st : Jvm.State) : (allAtoms ts).before a st = ts.all (fun c => c.before a st) := by
  induction ts with
  | nil => rfl
  | cons c t ih =>
    show (Jvm.Cond.and c (allAtoms t)).before a st = _
    rw [Jvm.Cond.before_and, ih, List.all_cons]
def words1 : List Jvm.Cond := Jvm.Cond.code x code maxLocals ret :: tables_1
/-- a 'code' word, met by the world's own term for the bytes: nothing is compared byte by byte -/
theorem code_word {y : MethodName} {bytes : ByteArray} {mx : Nat} {rt : Option FieldType} {a : Array Value} {s : State} {m : MethodId} {meth : Method} {c : Code} (h1 : s.methodNamed? y = some m) (h2 : s.vm.method? m = some meth) (h3 : meth.code = some c) (h4 : c.code = bytes)
    (h5 : (c.maxLocals == mx && c.exceptionTable.isEmpty && decide (c.maxStack ≤ mostOperands) && decide (meth.sig.returnType = rt) && !meth.locks && decide (parseMethodDescriptor y.desc = some meth.sig)) = true) : (Jvm.Cond.code y bytes mx rt).before a s = true := by
  simp only [Bool.and_eq_true, beq_iff_eq, Bool.not_eq_true', decide_eq_true_eq] at h5
  obtain ⟨⟨⟨⟨⟨g1, g2⟩, g3⟩, g4⟩, g5⟩, g6⟩ := h5
  simp [Cond.before, Cond.holds, Cond.value, h1, h2, h3, h4, g1, g2, g3, g4, g5, g6]
def isCode : Jvm.Cond → Bool
  | .code _ _ _ _ => true
  | _ => false
theorem all_split {L : List Jvm.Cond} {P : Jvm.Cond → Bool} (h1 : L.all (fun c => isCode c || P c) = true) (h2 : ∀ c ∈ L.filter isCode, P c = true) : L.all P = true := by
  refine List.all_eq_true.mpr fun c hc => ?_
  have h := List.all_eq_true.mp h1 c hc
  rcases Bool.eq_false_or_eq_true (isCode c) with hi | hi
  · exact h2 c (List.mem_filter.mpr ⟨hc, hi⟩)
  · simpa [hi] using h
set_option maxRecDepth 65536 in
theorem w_c0 : (Jvm.Cond.code x code maxLocals ret).before args0 about1 = true := code_word (m := ⟨1, 2⟩) (meth := k1m2) (c := k1c2) (by decide +kernel) rfl rfl rfl (by decide +kernel)
set_option maxRecDepth 65536 in
theorem w_c1 : (Jvm.Cond.code ({ cls := "com/example/killdeer/killdeer/GadgetViewContainsPinLaw", name := "wraps", desc := "(JJJ)Z" } : Jvm.MethodName) method_2_code (6 : Nat) (Option.some Jvm.ClassFile.FieldType.boolean)).before args0 about1 = true := code_word (m := ⟨1, 1⟩) (meth := k1m1) (c := k1c1) (by decide +kernel) rfl rfl rfl (by decide +kernel)
set_option maxRecDepth 65536 in
theorem w_c2 : (Jvm.Cond.code ({ cls := "com/example/killdeer/killdeer/GadgetView", name := "<init>", desc := "(ZLjava/lang/String;JJJJLcom/example/killdeer/killdeer/GadgetView$Obscured;)V" } : Jvm.MethodName) prog_16_method_1_code (12 : Nat) (Option.none : Option Jvm.ClassFile.FieldType)).before args0 about1 = true := code_word (m := ⟨2, 0⟩) (meth := k2m0) (c := k2c0) (by decide +kernel) rfl rfl rfl (by decide +kernel)
set_option maxRecDepth 65536 in
theorem w_c3 : (Jvm.Cond.code ({ cls := "java/lang/Object", name := "<init>", desc := "()V" } : Jvm.MethodName) object_method_1_code (1 : Nat) (Option.none : Option Jvm.ClassFile.FieldType)).before args0 about1 = true := code_word (m := ⟨0, 0⟩) (meth := k0m0) (c := k0c0) (by decide +kernel) rfl rfl rfl (by decide +kernel)
set_option maxRecDepth 65536 in
theorem w_c4 : (Jvm.Cond.code ({ cls := "com/example/killdeer/killdeer/GadgetView", name := "contains", desc := "(JJ)Z" } : Jvm.MethodName) prog_16_method_3_code (5 : Nat) (Option.some Jvm.ClassFile.FieldType.boolean)).before args0 about1 = true := code_word (m := ⟨2, 1⟩) (meth := k2m1) (c := k2c1) (by decide +kernel) rfl rfl rfl (by decide +kernel)
def codes1 : List Jvm.Cond := [Jvm.Cond.code x code maxLocals ret, Jvm.Cond.code ({ cls := "com/example/killdeer/killdeer/GadgetViewContainsPinLaw", name := "wraps", desc := "(JJJ)Z" } : Jvm.MethodName) method_2_code (6 : Nat) (Option.some Jvm.ClassFile.FieldType.boolean), Jvm.Cond.code ({ cls := "com/example/killdeer/killdeer/GadgetView", name := "<init>", desc := "(ZLjava/lang/String;JJJJLcom/example/killdeer/killdeer/GadgetView$Obscured;)V" } : Jvm.MethodName) prog_16_method_1_code (12 : Nat) (Option.none : Option Jvm.ClassFile.FieldType), Jvm.Cond.code ({ cls := "java/lang/Object", name := "<init>", desc := "()V" } : Jvm.MethodName) object_method_1_code (1 : Nat) (Option.none : Option Jvm.ClassFile.FieldType), Jvm.Cond.code ({ cls := "com/example/killdeer/killdeer/GadgetView", name := "contains", desc := "(JJ)Z" } : Jvm.MethodName) prog_16_method_3_code (5 : Nat) (Option.some Jvm.ClassFile.FieldType.boolean)]
set_option maxRecDepth 65536 in
theorem codes_eq : words1.filter isCode = codes1 := rfl
theorem w_codes : ∀ c ∈ words1.filter isCode, c.before args0 about1 = true := by
  rw [codes_eq]
  intro c hc
  simp only [codes1, List.mem_cons, List.not_mem_nil, or_false] at hc
  rcases hc with rfl | rfl | rfl | rfl | rfl
  · exact w_c0
  · exact w_c1
  · exact w_c2
  · exact w_c3
  · exact w_c4
set_option maxRecDepth 65536 in
theorem w_t1 : (words1.take 24).all (fun c => isCode c || c.before args0 about1) = true := by decide +kernel
set_option maxRecDepth 65536 in
theorem w_t2 : (words1.drop 24).all (fun c => isCode c || c.before args0 about1) = true := by decide +kernel
theorem w_tables : (allAtoms (Jvm.Cond.code x code maxLocals ret :: tables_1)).before args0 about1 = true := by
  rw [allAtoms_all]
  show words1.all (fun c => c.before args0 about1) = true
  refine all_split ?_ w_codes
  rw [← List.take_append_drop 24 words1, List.all_append, w_t1, w_t2]
  rfl
set_option maxRecDepth 65536 in
theorem w_case : (Jvm.Cond.and given_1 narrow_1).before args0 about1 = true := by decide +kernel
theorem w_applies : (headSpec (Jvm.Cond.code x code maxLocals ret :: tables_1) room_1).applies x e0.platform about1 = true :=
  (Spec.applies_iff w_frames).mpr ⟨w_running, w_runnable, w_alone, w_named, w_hears, w_ripe, w_room, w_tables⟩
theorem atStart : AtStart classFile x code maxLocals ret World_1 tables_1 room_1 Calls_1 rest_1 Pre_1 launch0 p0 e0 about1 theMethod args0 below0 :=
  ⟨lists_1, trivial, launch0.admits_env _ _ _, launch0.least_env, fairChoices_fair.cas, fairChoices_fair.clock, w_frames, w_args, w_heap, w_applies, trivial, trivial, w_case⟩
end start1
theorem witness_1 : WitnessClaimed_1 := ⟨start1.p0, start1.e0, start1.about1, start1.theMethod, start1.args0, start1.below0, start1.atStart⟩
end Jvm.Pilot.@@N@@
