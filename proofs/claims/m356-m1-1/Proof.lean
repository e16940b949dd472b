import JvmDerived
import JvmDerived.Pilot.@@N@@Statement
import JvmDerived.Pilot.@@N@@Code
set_option linter.unusedVariables false
set_option linter.unusedSimpArgs false
@@BLOCK:NumsL.lean.txt@@
namespace Jvm.Pilot.@@N@@
open Jvm Jvm.ClassFile Sem Op Lib Jvm.Free Jvm.Stand Jvm.LawKit Jvm.RoadKit Bundle Jvm.Pilot.@@N@@.Jvm.D
/-- the run goes on from U and ends as Q says -/
def Goes (p : Program) (e : Env) (below : List Frame) (U : State) (Q : Outcome → State → Prop) : Prop := ∃ s₂ o, Steps p.tables e below U s₂ ∧ s₂.status = .running ∧ Ended s₂ below o ∧ Q o s₂
theorem Goes.by {p : Program} {e : Env} {below : List Frame} {U U' : State} {Q : Outcome → State → Prop} (h : ∀ t, Steps p.tables e below U' t → Steps p.tables e below U t) (g : Goes p e below U' Q) : Goes p e below U Q := by
  obtain ⟨s, o, h1, h2⟩ := g; exact ⟨s, o, h _ h1, h2⟩
theorem Goes.tr {p : Program} {e : Env} {below : List Frame} {U U' : State} {Q : Outcome → State → Prop} (h : Steps p.tables e below U U') (g : Goes p e below U' Q) : Goes p e below U Q := Goes.by (fun _ k => h.trans k) g
theorem Goes.join {α : Type} {p : Program} {e : Env} {below : List Frame} {U : State} {Q : Outcome → State → Prop} (P : α → Prop) (S : α → State) (k : (∀ z, P z → Goes p e below (S z) Q) → Goes p e below U Q) (j : ∀ z, P z → Goes p e below (S z) Q) : Goes p e below U Q := k j
theorem Goes.out {p : Program} {e : Env} {below : List Frame} {U : State} {Q : Outcome → State → Prop} (g : Goes p e below U Q) : ∃ s₂ o, Steps p.tables e below U s₂ ∧ s₂.status = .running ∧ Ended s₂ below o ∧ Q o s₂ := g
/-- a callee that writes nothing and returns r -/
def QP (r : Option Value) (h0 : Heap) (n0 : Nat) (v : Option Value) (h : Heap) (L : List Loc) : Prop := v = r ∧ Fr n0 L ∧ h = h0
/-- the law -/
def QL (n0 : Nat) (v : Option Value) (h : Heap) (L : List Loc) : Prop := v = some (.int 1) ∧ Fr n0 L
theorem own_lt {a b : Int64} (h : a < b) : lcmpW a b < 0 := by rw [lcW]; exact (lc_lt a b).mpr h
theorem own_nlt {a b : Int64} (h : ¬ a < b) : ¬ lcmpW a b < 0 := by rw [lcW]; exact fun q => h ((lc_lt a b).mp q)
theorem own_gt {a b : Int64} (h : b < a) : 0 < lcmpW a b := by rw [lcW]; exact (lc_gt a b).mpr h
theorem own_ngt {a b : Int64} (h : ¬ b < a) : ¬ 0 < lcmpW a b := by rw [lcW]; exact fun q => h ((lc_gt a b).mp q)
theorem own_eq {a b : Int64} (h : a = b) : lcmpW a b = 0 := by rw [lcW]; exact (lc_eq a b).mpr h
theorem own_neq {a b : Int64} (h : ¬ a = b) : ¬ lcmpW a b = 0 := by rw [lcW]; exact fun q => h ((lc_eq a b).mp q)
theorem own_staKeep {Z : State} {h h' : Heap} {C n d : String} {v : Value} {ws : List Addr} (F : Sta Z h C n d v) (K : Keep h h' ws) (q : ∀ x ∈ ws, ∃ c : Cell, h[x]? = some c ∧ c.vm.isStatics = false) : Sta Z h' C n d v := by
  obtain ⟨cf, i, k, f, st, cell, h1, h2, h3, h4, h5, h6, h7⟩ := F
  refine ⟨cf, i, k, f, st, cell, h1, h2, h3, h4, K.2.1 st cell h5 (fun hm => ?_), h6, h7⟩
  obtain ⟨c, e1, e2⟩ := q st hm
  cases e1.symm.trans h5; rw [e2] at h6; cases h6
theorem own_nsE {Z : State} {h : Heap} {a : Addr} {C : String} (F : Exa Z h a C) : ∃ c : Cell, h[a]? = some c ∧ c.vm.isStatics = false := by
  obtain ⟨c, k, h1, h2, h3, h4, h5⟩ := F; exact ⟨c, h1, h4⟩
theorem own_nsV {Z : State} {h : Heap} {a : Addr} {k : ClassId} {ty : FieldType} {n : Int32} {vs : List Value} {d : Value} (F : Arv Z h a k ty n vs d) : ∃ c : Cell, h[a]? = some c ∧ c.vm.isStatics = false := by
  obtain ⟨c, A, r⟩ := F; exact ⟨c, A.1, A.plain⟩
theorem own_fldI {s : State} {args : Array Value} {t : Term} {a : Addr} {C n d : String} {k : Int32} (ev : t.eval args s none [] s = some (.ref a)) (h : (Cond.eq (.field t C n d) (.int k)).value args s none s [] = some true) : Fld s s.heap a C n d (.int k) := by
  obtain ⟨x, y, h1, h2, k1, k2⟩ := cmp_v (Or.inl h)
  obtain rfl : y = .int k := (Option.some.inj h2).symm
  obtain ⟨z, rfl⟩ := k2
  have e1 : (Cond.eq (.field t C n d) (.int k)).value args s none s [] = some (decide (z = k)) := by simp [Cond.value, h1, h2]
  have e2 : z = k := gotT e1 h
  subst e2
  rw [fld_at ev] at h1
  exact Fld.start h1
theorem own_fldR {s : State} {args : Array Value} {t u : Term} {a b : Addr} {C n d : String} (ev : t.eval args s none [] s = some (.ref a)) (eu : u.eval args s none [] s = some (.ref b)) (h : (Cond.eq (.field t C n d) u).value args s none s [] = some true) : Fld s s.heap a C n d (.ref b) := by
  obtain ⟨x, y, h1, h2, k1, k2⟩ := cmp_v (Or.inl h)
  obtain rfl : y = .ref b := Option.some.inj (h2.symm.trans eu)
  have hx : x.isRef = true := k2.2
  have e2 : x = .ref b := gotT (eq_R h1 h2 hx rfl) h
  subst e2
  rw [fld_at ev] at h1
  exact Fld.start h1
def Pins (Z : State) (h : Heap) (w : Nat → Addr) : Prop := Sta Z h "com/example/run_ledger/runledger/cli/ExitCode" "FAILED" "Lcom/example/run_ledger/runledger/cli/ExitCode;" (.ref (w 0)) ∧ Exa Z h (w 0) "com/example/run_ledger/runledger/cli/ExitCode" ∧ Sta Z h "com/example/run_ledger/runledger/cli/ExitCode" "OK" "Lcom/example/run_ledger/runledger/cli/ExitCode;" (.ref (w 1)) ∧ Exa Z h (w 1) "com/example/run_ledger/runledger/cli/ExitCode" ∧ Sta Z h "com/example/run_ledger/runledger/cli/ExitCode" "INVALID" "Lcom/example/run_ledger/runledger/cli/ExitCode;" (.ref (w 2)) ∧ Exa Z h (w 2) "com/example/run_ledger/runledger/cli/ExitCode" ∧ Sta Z h "com/example/run_ledger/runledger/cli/ExitCode" "REFUSED" "Lcom/example/run_ledger/runledger/cli/ExitCode;" (.ref (w 3)) ∧ Exa Z h (w 3) "com/example/run_ledger/runledger/cli/ExitCode" ∧ Sta Z h "com/example/run_ledger/runledger/cli/ExitCode" "NOTHING_READY" "Lcom/example/run_ledger/runledger/cli/ExitCode;" (.ref (w 4)) ∧ Exa Z h (w 4) "com/example/run_ledger/runledger/cli/ExitCode" ∧ Sta Z h "com/example/run_ledger/runledger/cli/ExitCode" "BATCH_ENDED" "Lcom/example/run_ledger/runledger/cli/ExitCode;" (.ref (w 5)) ∧ Exa Z h (w 5) "com/example/run_ledger/runledger/cli/ExitCode"
theorem d1_0 : decode prog_13_method_5_code 0 = .ok (.iload_n 0, 1) := by decide +kernel
theorem d1_1 : decode prog_13_method_5_code 1 = .ok (.lookupswitch 97 #[(200, 67), (201, 67), (204, 73), (400, 79), (404, 79), (409, 85), (410, 91)], 67) := by decide +kernel
theorem d1_68 : decode prog_13_method_5_code 68 = .ok (.getstatic 3, 3) := by decide +kernel
theorem d1_71 : decode prog_13_method_5_code 71 = .ok (.goto 30, 3) := by decide +kernel
theorem d1_101 : decode prog_13_method_5_code 101 = .ok (.areturn, 1) := by decide +kernel
theorem ef1_I (m : MethodId) (x0 : Int32) : entryFrame m #[(.int x0)] 1 = mkF m 0 #[.val (.int x0)] [] := by first | (simp [entryFrame, mkF, argsToLocals, Value.category]; done) | rfl
theorem pn0 : plainName "com/example/run_ledger/runledger/cli/ExitCode" = true := by first | (simp [plainName, overriddenIn]; done) | decide +kernel
theorem pd0 : parseMethodDescriptor "(I)Lcom/example/run_ledger/runledger/cli/ExitCode;" = some ⟨[.int], some (.object "com/example/run_ledger/runledger/cli/ExitCode")⟩ := by decide +kernel
theorem d1_74 : decode prog_13_method_5_code 74 = .ok (.getstatic 13, 3) := by decide +kernel
theorem d1_77 : decode prog_13_method_5_code 77 = .ok (.goto 24, 3) := by decide +kernel
theorem d1_80 : decode prog_13_method_5_code 80 = .ok (.getstatic 10, 3) := by decide +kernel
theorem d1_83 : decode prog_13_method_5_code 83 = .ok (.goto 18, 3) := by decide +kernel
theorem d1_86 : decode prog_13_method_5_code 86 = .ok (.getstatic 19, 3) := by decide +kernel
theorem d1_89 : decode prog_13_method_5_code 89 = .ok (.goto 12, 3) := by decide +kernel
theorem d1_92 : decode prog_13_method_5_code 92 = .ok (.getstatic 16, 3) := by decide +kernel
theorem d1_95 : decode prog_13_method_5_code 95 = .ok (.goto 6, 3) := by decide +kernel
theorem d1_98 : decode prog_13_method_5_code 98 = .ok (.getstatic 7, 3) := by decide +kernel
theorem ef0_II (m : MethodId) (x0 : Int32) (x1 : Int32) : entryFrame m #[(.int x0), (.int x1)] maxLocals = mkF m 0 #[.val (.int x0), .val (.int x1), .unset, .unset, .unset, .unset, .unset] [] := by first | (simp [entryFrame, mkF, argsToLocals, Value.category, maxLocals]; done) | rfl
theorem pn1 : plainName "com/example/run_ledger/runledger/cli/ExitCodeForAnswerPinLaw" = true := by first | (simp [plainName, overriddenIn]; done) | decide +kernel
set_option maxRecDepth 65536 in
set_option maxHeartbeats 40000000 in
theorem r1_200 (l : Launch) (Z : State) (a0 : Array Value) (hw : ∀ d ∈ tables_1, d.before a0 Z = true) (ws : List Jvm.Cond) (h0 : Heap) (n0 : Nat) (Z0 : n0 ≤ h0.size) (k : Int32) (w : Nat → Addr) (hk : k = (200 : Int32)) (P : Pins Z h0 w) :
    MetFree l (⟨"com/example/run_ledger/runledger/cli/ExitCode", "forAnswer", "(I)Lcom/example/run_ledger/runledger/cli/ExitCode;"⟩ : MethodName) (head1 (Jvm.Cond.code (⟨"com/example/run_ledger/runledger/cli/ExitCode", "forAnswer", "(I)Lcom/example/run_ledger/runledger/cli/ExitCode;"⟩ : MethodName) prog_13_method_5_code 1 (some (.object "com/example/run_ledger/runledger/cli/ExitCode")) :: ws) ({ frames := 0, cells := 0, slots := 0, locals := 0 } : Room)) (fun a U => a = #[(.int k)] ∧ Z.Warmed39 U.vm ∧ U.heap = h0) (fun _ _ _ _ _ => True) (fun _ U o U' => ∃ v L, o = .returned v ∧ QP (some (.ref (w 1))) h0 n0 v U'.heap L ∧ FrameEnd U o U' L ({ frames := 0, cells := 0, slots := 0, locals := 0 } : Room).cells ({ frames := 0, cells := 0, slots := 0, locals := 0 } : Room).slots) := by
  refine MetFree.of_bodySF (plainFor_of_name pn0) hisR ?_
  intro p e s m args below meth c s₁ Bd hml0 hP hK
  obtain ⟨rfl, hZ, hh⟩ := hP
  have hx := Bd.exec
  have hby := Bd.bytes
  have hml : c.maxLocals = 1 := hml0
  have hown : s.vm.findClass "com/example/run_ledger/runledger/cli/ExitCode" = some m.cls := findClass_of_methodNamed Bd.named
  have hnm := (name_of_methodNamed Bd.named Bd.method).1
  have X0 : Stand p l e ({ frames := 0, cells := 0, slots := 0, locals := 0 } : Room) s m #[(.int k)] below meth c s₁ [] 0 0 := Stand.of_body Bd
  have e0 : s₁.heap = h0 := by rw [← hh, Bd.state]; rfl
  have N0 := Fr.nil n0
  refine Goes.out (Goes.by (fun tz kz => castTop (ef1_I m k) kz) ?_)
  show Goes p e below (s₁.setTop (mkF m 0 #[.val (.int k)] [])) _
  refine Goes.by (fun _ kz => XS.iloadN X0.here hx rfl (hb hby d1_0) rfl (X0.lookupswitchHit hx (g := (mkF m 1 #[.val (.int k)] [(.int k)])) rfl rfl (hb hby d1_1) (by decide) (a := 200) (off := 67) (by rw [hk]; decide) (show (0 : Int) ≤ ((1 : Nat) : Int) + 67 from by decide) _ kz)) ?_
  obtain ⟨T2, X2, e2, st2⟩ := getS2 X0 hx hZ hown (host := "") (Or.inl (hw _ (List.mem_of_getElem? (i := 8) rfl))) Via.refl e0 P.2.2.1 (g := (mkF m 68 #[.val (.int k)] [])) rfl (hb hby d1_68)
  refine Goes.by st2 ?_
  refine Goes.by (fun _ kz => XS.goto X2.here hx rfl (pc0 := 71) (pc' := 101) rfl (hb hby d1_71) (by decide) (by decide) kz) ?_
  show Goes p e below (T2.setTop (mkF m 101 #[.val (.int k)] [(.ref (w 1))])) _
  obtain ⟨fs, hr, hrun, hended, hW, hsame⟩ := X2.leave (v := some (.ref (w 1))) (fun h => by rw [Bd.returns] at h; cases h)
  exact ⟨_, _, retOut X2 hx (t := (.object "com/example/run_ledger/runledger/cli/ExitCode")) Bd.returns rfl (Or.inr (Or.inr (Or.inr (Or.inr ⟨rfl, rfl, rfl⟩)))) (hb hby d1_101) hr, hrun, hended, _, _, rfl, ⟨rfl, N0, e2⟩, ⟨_, rfl⟩, hW, hsame.mono (by decide) (by decide)⟩
set_option maxRecDepth 65536 in
set_option maxHeartbeats 40000000 in
theorem r1_201 (l : Launch) (Z : State) (a0 : Array Value) (hw : ∀ d ∈ tables_1, d.before a0 Z = true) (ws : List Jvm.Cond) (h0 : Heap) (n0 : Nat) (Z0 : n0 ≤ h0.size) (k : Int32) (w : Nat → Addr) (hk : k = (201 : Int32)) (P : Pins Z h0 w) :
    MetFree l (⟨"com/example/run_ledger/runledger/cli/ExitCode", "forAnswer", "(I)Lcom/example/run_ledger/runledger/cli/ExitCode;"⟩ : MethodName) (head1 (Jvm.Cond.code (⟨"com/example/run_ledger/runledger/cli/ExitCode", "forAnswer", "(I)Lcom/example/run_ledger/runledger/cli/ExitCode;"⟩ : MethodName) prog_13_method_5_code 1 (some (.object "com/example/run_ledger/runledger/cli/ExitCode")) :: ws) ({ frames := 0, cells := 0, slots := 0, locals := 0 } : Room)) (fun a U => a = #[(.int k)] ∧ Z.Warmed39 U.vm ∧ U.heap = h0) (fun _ _ _ _ _ => True) (fun _ U o U' => ∃ v L, o = .returned v ∧ QP (some (.ref (w 1))) h0 n0 v U'.heap L ∧ FrameEnd U o U' L ({ frames := 0, cells := 0, slots := 0, locals := 0 } : Room).cells ({ frames := 0, cells := 0, slots := 0, locals := 0 } : Room).slots) := by
  refine MetFree.of_bodySF (plainFor_of_name pn0) hisR ?_
  intro p e s m args below meth c s₁ Bd hml0 hP hK
  obtain ⟨rfl, hZ, hh⟩ := hP
  have hx := Bd.exec
  have hby := Bd.bytes
  have hml : c.maxLocals = 1 := hml0
  have hown : s.vm.findClass "com/example/run_ledger/runledger/cli/ExitCode" = some m.cls := findClass_of_methodNamed Bd.named
  have hnm := (name_of_methodNamed Bd.named Bd.method).1
  have X0 : Stand p l e ({ frames := 0, cells := 0, slots := 0, locals := 0 } : Room) s m #[(.int k)] below meth c s₁ [] 0 0 := Stand.of_body Bd
  have e0 : s₁.heap = h0 := by rw [← hh, Bd.state]; rfl
  have N0 := Fr.nil n0
  refine Goes.out (Goes.by (fun tz kz => castTop (ef1_I m k) kz) ?_)
  show Goes p e below (s₁.setTop (mkF m 0 #[.val (.int k)] [])) _
  refine Goes.by (fun _ kz => XS.iloadN X0.here hx rfl (hb hby d1_0) rfl (X0.lookupswitchHit hx (g := (mkF m 1 #[.val (.int k)] [(.int k)])) rfl rfl (hb hby d1_1) (by decide) (a := 201) (off := 67) (by rw [hk]; decide) (show (0 : Int) ≤ ((1 : Nat) : Int) + 67 from by decide) _ kz)) ?_
  obtain ⟨T5, X5, e5, st5⟩ := getS2 X0 hx hZ hown (host := "") (Or.inl (hw _ (List.mem_of_getElem? (i := 8) rfl))) Via.refl e0 P.2.2.1 (g := (mkF m 68 #[.val (.int k)] [])) rfl (hb hby d1_68)
  refine Goes.by st5 ?_
  refine Goes.by (fun _ kz => XS.goto X5.here hx rfl (pc0 := 71) (pc' := 101) rfl (hb hby d1_71) (by decide) (by decide) kz) ?_
  show Goes p e below (T5.setTop (mkF m 101 #[.val (.int k)] [(.ref (w 1))])) _
  obtain ⟨fs, hr, hrun, hended, hW, hsame⟩ := X5.leave (v := some (.ref (w 1))) (fun h => by rw [Bd.returns] at h; cases h)
  exact ⟨_, _, retOut X5 hx (t := (.object "com/example/run_ledger/runledger/cli/ExitCode")) Bd.returns rfl (Or.inr (Or.inr (Or.inr (Or.inr ⟨rfl, rfl, rfl⟩)))) (hb hby d1_101) hr, hrun, hended, _, _, rfl, ⟨rfl, N0, e5⟩, ⟨_, rfl⟩, hW, hsame.mono (by decide) (by decide)⟩
set_option maxRecDepth 65536 in
set_option maxHeartbeats 40000000 in
theorem r1_204 (l : Launch) (Z : State) (a0 : Array Value) (hw : ∀ d ∈ tables_1, d.before a0 Z = true) (ws : List Jvm.Cond) (h0 : Heap) (n0 : Nat) (Z0 : n0 ≤ h0.size) (k : Int32) (w : Nat → Addr) (hk : k = (204 : Int32)) (P : Pins Z h0 w) :
    MetFree l (⟨"com/example/run_ledger/runledger/cli/ExitCode", "forAnswer", "(I)Lcom/example/run_ledger/runledger/cli/ExitCode;"⟩ : MethodName) (head1 (Jvm.Cond.code (⟨"com/example/run_ledger/runledger/cli/ExitCode", "forAnswer", "(I)Lcom/example/run_ledger/runledger/cli/ExitCode;"⟩ : MethodName) prog_13_method_5_code 1 (some (.object "com/example/run_ledger/runledger/cli/ExitCode")) :: ws) ({ frames := 0, cells := 0, slots := 0, locals := 0 } : Room)) (fun a U => a = #[(.int k)] ∧ Z.Warmed39 U.vm ∧ U.heap = h0) (fun _ _ _ _ _ => True) (fun _ U o U' => ∃ v L, o = .returned v ∧ QP (some (.ref (w 4))) h0 n0 v U'.heap L ∧ FrameEnd U o U' L ({ frames := 0, cells := 0, slots := 0, locals := 0 } : Room).cells ({ frames := 0, cells := 0, slots := 0, locals := 0 } : Room).slots) := by
  refine MetFree.of_bodySF (plainFor_of_name pn0) hisR ?_
  intro p e s m args below meth c s₁ Bd hml0 hP hK
  obtain ⟨rfl, hZ, hh⟩ := hP
  have hx := Bd.exec
  have hby := Bd.bytes
  have hml : c.maxLocals = 1 := hml0
  have hown : s.vm.findClass "com/example/run_ledger/runledger/cli/ExitCode" = some m.cls := findClass_of_methodNamed Bd.named
  have hnm := (name_of_methodNamed Bd.named Bd.method).1
  have X0 : Stand p l e ({ frames := 0, cells := 0, slots := 0, locals := 0 } : Room) s m #[(.int k)] below meth c s₁ [] 0 0 := Stand.of_body Bd
  have e0 : s₁.heap = h0 := by rw [← hh, Bd.state]; rfl
  have N0 := Fr.nil n0
  refine Goes.out (Goes.by (fun tz kz => castTop (ef1_I m k) kz) ?_)
  show Goes p e below (s₁.setTop (mkF m 0 #[.val (.int k)] [])) _
  refine Goes.by (fun _ kz => XS.iloadN X0.here hx rfl (hb hby d1_0) rfl (X0.lookupswitchHit hx (g := (mkF m 1 #[.val (.int k)] [(.int k)])) rfl rfl (hb hby d1_1) (by decide) (a := 204) (off := 73) (by rw [hk]; decide) (show (0 : Int) ≤ ((1 : Nat) : Int) + 73 from by decide) _ kz)) ?_
  obtain ⟨T8, X8, e8, st8⟩ := getS2 X0 hx hZ hown (host := "") (Or.inl (hw _ (List.mem_of_getElem? (i := 17) rfl))) Via.refl e0 P.2.2.2.2.2.2.2.2.1 (g := (mkF m 74 #[.val (.int k)] [])) rfl (hb hby d1_74)
  refine Goes.by st8 ?_
  refine Goes.by (fun _ kz => XS.goto X8.here hx rfl (pc0 := 77) (pc' := 101) rfl (hb hby d1_77) (by decide) (by decide) kz) ?_
  show Goes p e below (T8.setTop (mkF m 101 #[.val (.int k)] [(.ref (w 4))])) _
  obtain ⟨fs, hr, hrun, hended, hW, hsame⟩ := X8.leave (v := some (.ref (w 4))) (fun h => by rw [Bd.returns] at h; cases h)
  exact ⟨_, _, retOut X8 hx (t := (.object "com/example/run_ledger/runledger/cli/ExitCode")) Bd.returns rfl (Or.inr (Or.inr (Or.inr (Or.inr ⟨rfl, rfl, rfl⟩)))) (hb hby d1_101) hr, hrun, hended, _, _, rfl, ⟨rfl, N0, e8⟩, ⟨_, rfl⟩, hW, hsame.mono (by decide) (by decide)⟩
set_option maxRecDepth 65536 in
set_option maxHeartbeats 40000000 in
theorem r1_400 (l : Launch) (Z : State) (a0 : Array Value) (hw : ∀ d ∈ tables_1, d.before a0 Z = true) (ws : List Jvm.Cond) (h0 : Heap) (n0 : Nat) (Z0 : n0 ≤ h0.size) (k : Int32) (w : Nat → Addr) (hk : k = (400 : Int32)) (P : Pins Z h0 w) :
    MetFree l (⟨"com/example/run_ledger/runledger/cli/ExitCode", "forAnswer", "(I)Lcom/example/run_ledger/runledger/cli/ExitCode;"⟩ : MethodName) (head1 (Jvm.Cond.code (⟨"com/example/run_ledger/runledger/cli/ExitCode", "forAnswer", "(I)Lcom/example/run_ledger/runledger/cli/ExitCode;"⟩ : MethodName) prog_13_method_5_code 1 (some (.object "com/example/run_ledger/runledger/cli/ExitCode")) :: ws) ({ frames := 0, cells := 0, slots := 0, locals := 0 } : Room)) (fun a U => a = #[(.int k)] ∧ Z.Warmed39 U.vm ∧ U.heap = h0) (fun _ _ _ _ _ => True) (fun _ U o U' => ∃ v L, o = .returned v ∧ QP (some (.ref (w 2))) h0 n0 v U'.heap L ∧ FrameEnd U o U' L ({ frames := 0, cells := 0, slots := 0, locals := 0 } : Room).cells ({ frames := 0, cells := 0, slots := 0, locals := 0 } : Room).slots) := by
  refine MetFree.of_bodySF (plainFor_of_name pn0) hisR ?_
  intro p e s m args below meth c s₁ Bd hml0 hP hK
  obtain ⟨rfl, hZ, hh⟩ := hP
  have hx := Bd.exec
  have hby := Bd.bytes
  have hml : c.maxLocals = 1 := hml0
  have hown : s.vm.findClass "com/example/run_ledger/runledger/cli/ExitCode" = some m.cls := findClass_of_methodNamed Bd.named
  have hnm := (name_of_methodNamed Bd.named Bd.method).1
  have X0 : Stand p l e ({ frames := 0, cells := 0, slots := 0, locals := 0 } : Room) s m #[(.int k)] below meth c s₁ [] 0 0 := Stand.of_body Bd
  have e0 : s₁.heap = h0 := by rw [← hh, Bd.state]; rfl
  have N0 := Fr.nil n0
  refine Goes.out (Goes.by (fun tz kz => castTop (ef1_I m k) kz) ?_)
  show Goes p e below (s₁.setTop (mkF m 0 #[.val (.int k)] [])) _
  refine Goes.by (fun _ kz => XS.iloadN X0.here hx rfl (hb hby d1_0) rfl (X0.lookupswitchHit hx (g := (mkF m 1 #[.val (.int k)] [(.int k)])) rfl rfl (hb hby d1_1) (by decide) (a := 400) (off := 79) (by rw [hk]; decide) (show (0 : Int) ≤ ((1 : Nat) : Int) + 79 from by decide) _ kz)) ?_
  obtain ⟨T11, X11, e11, st11⟩ := getS2 X0 hx hZ hown (host := "") (Or.inl (hw _ (List.mem_of_getElem? (i := 11) rfl))) Via.refl e0 P.2.2.2.2.1 (g := (mkF m 80 #[.val (.int k)] [])) rfl (hb hby d1_80)
  refine Goes.by st11 ?_
  refine Goes.by (fun _ kz => XS.goto X11.here hx rfl (pc0 := 83) (pc' := 101) rfl (hb hby d1_83) (by decide) (by decide) kz) ?_
  show Goes p e below (T11.setTop (mkF m 101 #[.val (.int k)] [(.ref (w 2))])) _
  obtain ⟨fs, hr, hrun, hended, hW, hsame⟩ := X11.leave (v := some (.ref (w 2))) (fun h => by rw [Bd.returns] at h; cases h)
  exact ⟨_, _, retOut X11 hx (t := (.object "com/example/run_ledger/runledger/cli/ExitCode")) Bd.returns rfl (Or.inr (Or.inr (Or.inr (Or.inr ⟨rfl, rfl, rfl⟩)))) (hb hby d1_101) hr, hrun, hended, _, _, rfl, ⟨rfl, N0, e11⟩, ⟨_, rfl⟩, hW, hsame.mono (by decide) (by decide)⟩
set_option maxRecDepth 65536 in
set_option maxHeartbeats 40000000 in
theorem r1_404 (l : Launch) (Z : State) (a0 : Array Value) (hw : ∀ d ∈ tables_1, d.before a0 Z = true) (ws : List Jvm.Cond) (h0 : Heap) (n0 : Nat) (Z0 : n0 ≤ h0.size) (k : Int32) (w : Nat → Addr) (hk : k = (404 : Int32)) (P : Pins Z h0 w) :
    MetFree l (⟨"com/example/run_ledger/runledger/cli/ExitCode", "forAnswer", "(I)Lcom/example/run_ledger/runledger/cli/ExitCode;"⟩ : MethodName) (head1 (Jvm.Cond.code (⟨"com/example/run_ledger/runledger/cli/ExitCode", "forAnswer", "(I)Lcom/example/run_ledger/runledger/cli/ExitCode;"⟩ : MethodName) prog_13_method_5_code 1 (some (.object "com/example/run_ledger/runledger/cli/ExitCode")) :: ws) ({ frames := 0, cells := 0, slots := 0, locals := 0 } : Room)) (fun a U => a = #[(.int k)] ∧ Z.Warmed39 U.vm ∧ U.heap = h0) (fun _ _ _ _ _ => True) (fun _ U o U' => ∃ v L, o = .returned v ∧ QP (some (.ref (w 2))) h0 n0 v U'.heap L ∧ FrameEnd U o U' L ({ frames := 0, cells := 0, slots := 0, locals := 0 } : Room).cells ({ frames := 0, cells := 0, slots := 0, locals := 0 } : Room).slots) := by
  refine MetFree.of_bodySF (plainFor_of_name pn0) hisR ?_
  intro p e s m args below meth c s₁ Bd hml0 hP hK
  obtain ⟨rfl, hZ, hh⟩ := hP
  have hx := Bd.exec
  have hby := Bd.bytes
  have hml : c.maxLocals = 1 := hml0
  have hown : s.vm.findClass "com/example/run_ledger/runledger/cli/ExitCode" = some m.cls := findClass_of_methodNamed Bd.named
  have hnm := (name_of_methodNamed Bd.named Bd.method).1
  have X0 : Stand p l e ({ frames := 0, cells := 0, slots := 0, locals := 0 } : Room) s m #[(.int k)] below meth c s₁ [] 0 0 := Stand.of_body Bd
  have e0 : s₁.heap = h0 := by rw [← hh, Bd.state]; rfl
  have N0 := Fr.nil n0
  refine Goes.out (Goes.by (fun tz kz => castTop (ef1_I m k) kz) ?_)
  show Goes p e below (s₁.setTop (mkF m 0 #[.val (.int k)] [])) _
  refine Goes.by (fun _ kz => XS.iloadN X0.here hx rfl (hb hby d1_0) rfl (X0.lookupswitchHit hx (g := (mkF m 1 #[.val (.int k)] [(.int k)])) rfl rfl (hb hby d1_1) (by decide) (a := 404) (off := 79) (by rw [hk]; decide) (show (0 : Int) ≤ ((1 : Nat) : Int) + 79 from by decide) _ kz)) ?_
  obtain ⟨T14, X14, e14, st14⟩ := getS2 X0 hx hZ hown (host := "") (Or.inl (hw _ (List.mem_of_getElem? (i := 11) rfl))) Via.refl e0 P.2.2.2.2.1 (g := (mkF m 80 #[.val (.int k)] [])) rfl (hb hby d1_80)
  refine Goes.by st14 ?_
  refine Goes.by (fun _ kz => XS.goto X14.here hx rfl (pc0 := 83) (pc' := 101) rfl (hb hby d1_83) (by decide) (by decide) kz) ?_
  show Goes p e below (T14.setTop (mkF m 101 #[.val (.int k)] [(.ref (w 2))])) _
  obtain ⟨fs, hr, hrun, hended, hW, hsame⟩ := X14.leave (v := some (.ref (w 2))) (fun h => by rw [Bd.returns] at h; cases h)
  exact ⟨_, _, retOut X14 hx (t := (.object "com/example/run_ledger/runledger/cli/ExitCode")) Bd.returns rfl (Or.inr (Or.inr (Or.inr (Or.inr ⟨rfl, rfl, rfl⟩)))) (hb hby d1_101) hr, hrun, hended, _, _, rfl, ⟨rfl, N0, e14⟩, ⟨_, rfl⟩, hW, hsame.mono (by decide) (by decide)⟩
set_option maxRecDepth 65536 in
set_option maxHeartbeats 40000000 in
theorem r1_409 (l : Launch) (Z : State) (a0 : Array Value) (hw : ∀ d ∈ tables_1, d.before a0 Z = true) (ws : List Jvm.Cond) (h0 : Heap) (n0 : Nat) (Z0 : n0 ≤ h0.size) (k : Int32) (w : Nat → Addr) (hk : k = (409 : Int32)) (P : Pins Z h0 w) :
    MetFree l (⟨"com/example/run_ledger/runledger/cli/ExitCode", "forAnswer", "(I)Lcom/example/run_ledger/runledger/cli/ExitCode;"⟩ : MethodName) (head1 (Jvm.Cond.code (⟨"com/example/run_ledger/runledger/cli/ExitCode", "forAnswer", "(I)Lcom/example/run_ledger/runledger/cli/ExitCode;"⟩ : MethodName) prog_13_method_5_code 1 (some (.object "com/example/run_ledger/runledger/cli/ExitCode")) :: ws) ({ frames := 0, cells := 0, slots := 0, locals := 0 } : Room)) (fun a U => a = #[(.int k)] ∧ Z.Warmed39 U.vm ∧ U.heap = h0) (fun _ _ _ _ _ => True) (fun _ U o U' => ∃ v L, o = .returned v ∧ QP (some (.ref (w 3))) h0 n0 v U'.heap L ∧ FrameEnd U o U' L ({ frames := 0, cells := 0, slots := 0, locals := 0 } : Room).cells ({ frames := 0, cells := 0, slots := 0, locals := 0 } : Room).slots) := by
  refine MetFree.of_bodySF (plainFor_of_name pn0) hisR ?_
  intro p e s m args below meth c s₁ Bd hml0 hP hK
  obtain ⟨rfl, hZ, hh⟩ := hP
  have hx := Bd.exec
  have hby := Bd.bytes
  have hml : c.maxLocals = 1 := hml0
  have hown : s.vm.findClass "com/example/run_ledger/runledger/cli/ExitCode" = some m.cls := findClass_of_methodNamed Bd.named
  have hnm := (name_of_methodNamed Bd.named Bd.method).1
  have X0 : Stand p l e ({ frames := 0, cells := 0, slots := 0, locals := 0 } : Room) s m #[(.int k)] below meth c s₁ [] 0 0 := Stand.of_body Bd
  have e0 : s₁.heap = h0 := by rw [← hh, Bd.state]; rfl
  have N0 := Fr.nil n0
  refine Goes.out (Goes.by (fun tz kz => castTop (ef1_I m k) kz) ?_)
  show Goes p e below (s₁.setTop (mkF m 0 #[.val (.int k)] [])) _
  refine Goes.by (fun _ kz => XS.iloadN X0.here hx rfl (hb hby d1_0) rfl (X0.lookupswitchHit hx (g := (mkF m 1 #[.val (.int k)] [(.int k)])) rfl rfl (hb hby d1_1) (by decide) (a := 409) (off := 85) (by rw [hk]; decide) (show (0 : Int) ≤ ((1 : Nat) : Int) + 85 from by decide) _ kz)) ?_
  obtain ⟨T17, X17, e17, st17⟩ := getS2 X0 hx hZ hown (host := "") (Or.inl (hw _ (List.mem_of_getElem? (i := 14) rfl))) Via.refl e0 P.2.2.2.2.2.2.1 (g := (mkF m 86 #[.val (.int k)] [])) rfl (hb hby d1_86)
  refine Goes.by st17 ?_
  refine Goes.by (fun _ kz => XS.goto X17.here hx rfl (pc0 := 89) (pc' := 101) rfl (hb hby d1_89) (by decide) (by decide) kz) ?_
  show Goes p e below (T17.setTop (mkF m 101 #[.val (.int k)] [(.ref (w 3))])) _
  obtain ⟨fs, hr, hrun, hended, hW, hsame⟩ := X17.leave (v := some (.ref (w 3))) (fun h => by rw [Bd.returns] at h; cases h)
  exact ⟨_, _, retOut X17 hx (t := (.object "com/example/run_ledger/runledger/cli/ExitCode")) Bd.returns rfl (Or.inr (Or.inr (Or.inr (Or.inr ⟨rfl, rfl, rfl⟩)))) (hb hby d1_101) hr, hrun, hended, _, _, rfl, ⟨rfl, N0, e17⟩, ⟨_, rfl⟩, hW, hsame.mono (by decide) (by decide)⟩
set_option maxRecDepth 65536 in
set_option maxHeartbeats 40000000 in
theorem r1_410 (l : Launch) (Z : State) (a0 : Array Value) (hw : ∀ d ∈ tables_1, d.before a0 Z = true) (ws : List Jvm.Cond) (h0 : Heap) (n0 : Nat) (Z0 : n0 ≤ h0.size) (k : Int32) (w : Nat → Addr) (hk : k = (410 : Int32)) (P : Pins Z h0 w) :
    MetFree l (⟨"com/example/run_ledger/runledger/cli/ExitCode", "forAnswer", "(I)Lcom/example/run_ledger/runledger/cli/ExitCode;"⟩ : MethodName) (head1 (Jvm.Cond.code (⟨"com/example/run_ledger/runledger/cli/ExitCode", "forAnswer", "(I)Lcom/example/run_ledger/runledger/cli/ExitCode;"⟩ : MethodName) prog_13_method_5_code 1 (some (.object "com/example/run_ledger/runledger/cli/ExitCode")) :: ws) ({ frames := 0, cells := 0, slots := 0, locals := 0 } : Room)) (fun a U => a = #[(.int k)] ∧ Z.Warmed39 U.vm ∧ U.heap = h0) (fun _ _ _ _ _ => True) (fun _ U o U' => ∃ v L, o = .returned v ∧ QP (some (.ref (w 5))) h0 n0 v U'.heap L ∧ FrameEnd U o U' L ({ frames := 0, cells := 0, slots := 0, locals := 0 } : Room).cells ({ frames := 0, cells := 0, slots := 0, locals := 0 } : Room).slots) := by
  refine MetFree.of_bodySF (plainFor_of_name pn0) hisR ?_
  intro p e s m args below meth c s₁ Bd hml0 hP hK
  obtain ⟨rfl, hZ, hh⟩ := hP
  have hx := Bd.exec
  have hby := Bd.bytes
  have hml : c.maxLocals = 1 := hml0
  have hown : s.vm.findClass "com/example/run_ledger/runledger/cli/ExitCode" = some m.cls := findClass_of_methodNamed Bd.named
  have hnm := (name_of_methodNamed Bd.named Bd.method).1
  have X0 : Stand p l e ({ frames := 0, cells := 0, slots := 0, locals := 0 } : Room) s m #[(.int k)] below meth c s₁ [] 0 0 := Stand.of_body Bd
  have e0 : s₁.heap = h0 := by rw [← hh, Bd.state]; rfl
  have N0 := Fr.nil n0
  refine Goes.out (Goes.by (fun tz kz => castTop (ef1_I m k) kz) ?_)
  show Goes p e below (s₁.setTop (mkF m 0 #[.val (.int k)] [])) _
  refine Goes.by (fun _ kz => XS.iloadN X0.here hx rfl (hb hby d1_0) rfl (X0.lookupswitchHit hx (g := (mkF m 1 #[.val (.int k)] [(.int k)])) rfl rfl (hb hby d1_1) (by decide) (a := 410) (off := 91) (by rw [hk]; decide) (show (0 : Int) ≤ ((1 : Nat) : Int) + 91 from by decide) _ kz)) ?_
  obtain ⟨T20, X20, e20, st20⟩ := getS2 X0 hx hZ hown (host := "") (Or.inl (hw _ (List.mem_of_getElem? (i := 20) rfl))) Via.refl e0 P.2.2.2.2.2.2.2.2.2.2.1 (g := (mkF m 92 #[.val (.int k)] [])) rfl (hb hby d1_92)
  refine Goes.by st20 ?_
  refine Goes.by (fun _ kz => XS.goto X20.here hx rfl (pc0 := 95) (pc' := 101) rfl (hb hby d1_95) (by decide) (by decide) kz) ?_
  show Goes p e below (T20.setTop (mkF m 101 #[.val (.int k)] [(.ref (w 5))])) _
  obtain ⟨fs, hr, hrun, hended, hW, hsame⟩ := X20.leave (v := some (.ref (w 5))) (fun h => by rw [Bd.returns] at h; cases h)
  exact ⟨_, _, retOut X20 hx (t := (.object "com/example/run_ledger/runledger/cli/ExitCode")) Bd.returns rfl (Or.inr (Or.inr (Or.inr (Or.inr ⟨rfl, rfl, rfl⟩)))) (hb hby d1_101) hr, hrun, hended, _, _, rfl, ⟨rfl, N0, e20⟩, ⟨_, rfl⟩, hW, hsame.mono (by decide) (by decide)⟩
set_option maxRecDepth 65536 in
set_option maxHeartbeats 40000000 in
theorem r1_x (l : Launch) (Z : State) (a0 : Array Value) (hw : ∀ d ∈ tables_1, d.before a0 Z = true) (ws : List Jvm.Cond) (h0 : Heap) (n0 : Nat) (Z0 : n0 ≤ h0.size) (k : Int32) (w : Nat → Addr) (hk200 : ¬ (k = (200 : Int32))) (hk201 : ¬ (k = (201 : Int32))) (hk204 : ¬ (k = (204 : Int32))) (hk400 : ¬ (k = (400 : Int32))) (hk404 : ¬ (k = (404 : Int32))) (hk409 : ¬ (k = (409 : Int32))) (hk410 : ¬ (k = (410 : Int32))) (P : Pins Z h0 w) :
    MetFree l (⟨"com/example/run_ledger/runledger/cli/ExitCode", "forAnswer", "(I)Lcom/example/run_ledger/runledger/cli/ExitCode;"⟩ : MethodName) (head1 (Jvm.Cond.code (⟨"com/example/run_ledger/runledger/cli/ExitCode", "forAnswer", "(I)Lcom/example/run_ledger/runledger/cli/ExitCode;"⟩ : MethodName) prog_13_method_5_code 1 (some (.object "com/example/run_ledger/runledger/cli/ExitCode")) :: ws) ({ frames := 0, cells := 0, slots := 0, locals := 0 } : Room)) (fun a U => a = #[(.int k)] ∧ Z.Warmed39 U.vm ∧ U.heap = h0) (fun _ _ _ _ _ => True) (fun _ U o U' => ∃ v L, o = .returned v ∧ QP (some (.ref (w 0))) h0 n0 v U'.heap L ∧ FrameEnd U o U' L ({ frames := 0, cells := 0, slots := 0, locals := 0 } : Room).cells ({ frames := 0, cells := 0, slots := 0, locals := 0 } : Room).slots) := by
  refine MetFree.of_bodySF (plainFor_of_name pn0) hisR ?_
  intro p e s m args below meth c s₁ Bd hml0 hP hK
  obtain ⟨rfl, hZ, hh⟩ := hP
  have hx := Bd.exec
  have hby := Bd.bytes
  have hml : c.maxLocals = 1 := hml0
  have hown : s.vm.findClass "com/example/run_ledger/runledger/cli/ExitCode" = some m.cls := findClass_of_methodNamed Bd.named
  have hnm := (name_of_methodNamed Bd.named Bd.method).1
  have X0 : Stand p l e ({ frames := 0, cells := 0, slots := 0, locals := 0 } : Room) s m #[(.int k)] below meth c s₁ [] 0 0 := Stand.of_body Bd
  have e0 : s₁.heap = h0 := by rw [← hh, Bd.state]; rfl
  have N0 := Fr.nil n0
  refine Goes.out (Goes.by (fun tz kz => castTop (ef1_I m k) kz) ?_)
  show Goes p e below (s₁.setTop (mkF m 0 #[.val (.int k)] [])) _
  refine Goes.by (fun _ kz => XS.iloadN X0.here hx rfl (hb hby d1_0) rfl kz) ?_
  show Goes p e below (s₁.setTop (mkF m 1 #[.val (.int k)] [(.int k)])) _
  have hm23 : ∀ q ∈ (#[(200, 67), (201, 67), (204, 73), (400, 79), (404, 79), (409, 85), (410, 91)] : Array (Int × Int)).toList, q.1 ≠ (k).toInt := by
    intro q hq; simp only [List.mem_cons, List.not_mem_nil, or_false] at hq
    rcases hq with rfl | rfl | rfl | rfl | rfl | rfl | rfl
    · intro z; exact hk200 (Int32.toInt_inj.mp (z.symm.trans (by decide)))
    · intro z; exact hk201 (Int32.toInt_inj.mp (z.symm.trans (by decide)))
    · intro z; exact hk204 (Int32.toInt_inj.mp (z.symm.trans (by decide)))
    · intro z; exact hk400 (Int32.toInt_inj.mp (z.symm.trans (by decide)))
    · intro z; exact hk404 (Int32.toInt_inj.mp (z.symm.trans (by decide)))
    · intro z; exact hk409 (Int32.toInt_inj.mp (z.symm.trans (by decide)))
    · intro z; exact hk410 (Int32.toInt_inj.mp (z.symm.trans (by decide)))
  refine Goes.by (fun _ kz => X0.lookupswitchMiss hx (g := (mkF m 1 #[.val (.int k)] [(.int k)])) rfl rfl (hb hby d1_1) (by decide) (find_miss hm23) (show (0 : Int) ≤ ((1 : Nat) : Int) + 97 from by decide) _ kz) ?_
  obtain ⟨T24, X24, e24, st24⟩ := getS2 X0 hx hZ hown (host := "") (Or.inl (hw _ (List.mem_of_getElem? (i := 5) rfl))) Via.refl e0 P.1 (g := (mkF m 98 #[.val (.int k)] [])) rfl (hb hby d1_98)
  refine Goes.by st24 ?_
  show Goes p e below (T24.setTop (mkF m 101 #[.val (.int k)] [(.ref (w 0))])) _
  obtain ⟨fs, hr, hrun, hended, hW, hsame⟩ := X24.leave (v := some (.ref (w 0))) (fun h => by rw [Bd.returns] at h; cases h)
  exact ⟨_, _, retOut X24 hx (t := (.object "com/example/run_ledger/runledger/cli/ExitCode")) Bd.returns rfl (Or.inr (Or.inr (Or.inr (Or.inr ⟨rfl, rfl, rfl⟩)))) (hb hby d1_101) hr, hrun, hended, _, _, rfl, ⟨rfl, N0, e24⟩, ⟨_, rfl⟩, hW, hsame.mono (by decide) (by decide)⟩
set_option maxRecDepth 65536 in
set_option maxHeartbeats 40000000 in
theorem rm0 (l : Launch) (Z : State) (a0 : Array Value) (hw : ∀ d ∈ tables_1, d.before a0 Z = true) (ws : List Jvm.Cond) (h0 : Heap) (n0 : Nat) (Z0 : n0 ≤ h0.size) (p1 : Int32) (p2 : Int32) (w : Nat → Addr) (P : Pins Z h0 w) :
    MetFree l x (head1 (Jvm.Cond.code x code maxLocals ret :: ws) room_1) (fun a U => a = #[(.int p1), (.int p2)] ∧ Z.Warmed39 U.vm ∧ U.heap = h0) (fun _ _ _ _ _ => True) (fun _ U o U' => ∃ v L, o = .returned v ∧ QL n0 v U'.heap L ∧ FrameEnd U o U' L 0 0) := by
  refine MetFree.of_bodySF (plainFor_of_name pn1) hisR ?_
  intro p e s m args below meth c s₁ Bd hml0 hP hK
  obtain ⟨rfl, hZ, hh⟩ := hP
  have hx := Bd.exec
  have hby := Bd.bytes
  have hml : c.maxLocals = 7 := hml0
  have hown : s.vm.findClass "com/example/run_ledger/runledger/cli/ExitCodeForAnswerPinLaw" = some m.cls := findClass_of_methodNamed Bd.named
  have hnm := (name_of_methodNamed Bd.named Bd.method).1
  have X0 : Stand p l e room_1 s m #[(.int p1), (.int p2)] below meth c s₁ [] 0 0 := Stand.of_body Bd
  have e0 : s₁.heap = h0 := by rw [← hh, Bd.state]; rfl
  have N0 := Fr.nil n0
  refine Goes.out (Goes.by (fun tz kz => castTop (ef0_II m p1 p2) kz) ?_)
  show Goes p e below (s₁.setTop (mkF m 0 #[.val (.int p1), .val (.int p2), .unset, .unset, .unset, .unset, .unset] [])) _
  refine Goes.by (fun _ kz => XS.iloadN X0.here hx rfl (hb hby at_0) rfl (XS.iconst X0.here hx rfl (hb hby at_1) (XS.iand X0.here hx rfl (hb hby at_2) rfl kz))) ?_
  show Goes p e below (s₁.setTop (mkF m 3 #[.val (.int p1), .val (.int p2), .unset, .unset, .unset, .unset, .unset] [(.int (p1 &&& (3 : Int32)))])) _
  refine Goes.by (fun _ kz => XS.istoreN X0.here hx rfl (hb hby at_3) rfl (l' := #[.val (.int p1), .val (.int p2), .val (.int (p1 &&& (3 : Int32))), .unset, .unset, .unset, .unset]) rfl (XS.iloadN X0.here hx rfl (hb hby at_4) rfl (X0.ldcInt hx hown (mvT hZ (hw _ (List.mem_of_getElem? (i := 0) rfl))) (g := (mkF m 5 #[.val (.int p1), .val (.int p2), .val (.int (p1 &&& (3 : Int32))), .unset, .unset, .unset, .unset] [(.int p2)])) rfl (hb hby at_5) _ kz))) ?_
  show Goes p e below (s₁.setTop (mkF m 7 #[.val (.int p1), .val (.int p2), .val (.int (p1 &&& (3 : Int32))), .unset, .unset, .unset, .unset] [(.int (2147483647 : Int32)), (.int p2)])) _
  refine Goes.by (fun _ kz => XS.iand X0.here hx rfl (hb hby at_7) rfl (XS.bipush X0.here hx rfl (hb hby at_8) (iremM X0 hx rfl (hb hby at_10) rfl (by decide) kz))) ?_
  show Goes p e below (s₁.setTop (mkF m 11 #[.val (.int p1), .val (.int p2), .val (.int (p1 &&& (3 : Int32))), .unset, .unset, .unset, .unset] [(.int ((p2 &&& (2147483647 : Int32)) % (24 : Int32)))])) _
  refine Goes.by (fun _ kz => XS.istoreN X0.here hx rfl (hb hby at_11) rfl (l' := #[.val (.int p1), .val (.int p2), .val (.int (p1 &&& (3 : Int32))), .val (.int ((p2 &&& (2147483647 : Int32)) % (24 : Int32))), .unset, .unset, .unset]) rfl (XS.iloadN X0.here hx rfl (hb hby at_12) rfl (XS.iconst X0.here hx rfl (hb hby at_13) kz))) ?_
  show Goes p e below (s₁.setTop (mkF m 14 #[.val (.int p1), .val (.int p2), .val (.int (p1 &&& (3 : Int32))), .val (.int ((p2 &&& (2147483647 : Int32)) % (24 : Int32))), .unset, .unset, .unset] [(.int (1 : Int32)), (.int (p1 &&& (3 : Int32)))])) _
  by_cases hc1 : (p1 &&& (3 : Int32)) = (1 : Int32)
  · refine Goes.by (fun _ kz => XS.icmpNo X0.here hx rfl (hb hby at_14) rfl (teq hc1).2 (XS.sipush X0.here hx rfl (hb hby at_17) (XS.iloadN X0.here hx rfl (hb hby at_20) rfl kz))) ?_
    show Goes p e below (s₁.setTop (mkF m 21 #[.val (.int p1), .val (.int p2), .val (.int (p1 &&& (3 : Int32))), .val (.int ((p2 &&& (2147483647 : Int32)) % (24 : Int32))), .unset, .unset, .unset] [(.int ((p2 &&& (2147483647 : Int32)) % (24 : Int32))), (.int (190 : Int32))])) _
    refine Goes.by (fun _ kz => XS.iadd X0.here hx rfl (hb hby at_21) rfl (XS.istore X0.here hx rfl (hb hby at_22) rfl (l' := #[.val (.int p1), .val (.int p2), .val (.int (p1 &&& (3 : Int32))), .val (.int ((p2 &&& (2147483647 : Int32)) % (24 : Int32))), .val (.int ((190 : Int32) + ((p2 &&& (2147483647 : Int32)) % (24 : Int32)))), .unset, .unset]) rfl (XS.goto X0.here hx rfl (pc0 := 24) (pc' := 45) rfl (hb hby at_24) (by decide) (by decide) kz))) ?_
    show Goes p e below (s₁.setTop (mkF m 45 #[.val (.int p1), .val (.int p2), .val (.int (p1 &&& (3 : Int32))), .val (.int ((p2 &&& (2147483647 : Int32)) % (24 : Int32))), .val (.int ((190 : Int32) + ((p2 &&& (2147483647 : Int32)) % (24 : Int32)))), .unset, .unset] [])) _
    by_cases hk200 : ((190 : Int32) + ((p2 &&& (2147483647 : Int32)) % (24 : Int32))) = (200 : Int32)
    · show Goes p e below (s₁.setTop (mkF m 45 #[.val (.int p1), .val (.int p2), .val (.int (p1 &&& (3 : Int32))), .val (.int ((p2 &&& (2147483647 : Int32)) % (24 : Int32))), .val (.int ((190 : Int32) + ((p2 &&& (2147483647 : Int32)) % (24 : Int32)))), .unset, .unset] [])) _
      refine Goes.by (fun _ kz => XS.iload X0.here hx rfl (hb hby at_45) rfl kz) ?_
      obtain ⟨_, _, ⟨T3, L3, k3, n3⟩, -, X3, ⟨Lc3, hQ3, l3, y3, z3⟩, st3⟩ := Jvm.LawKit.callS X0 hx (y := (⟨"com/example/run_ledger/runledger/cli/ExitCode", "forAnswer", "(I)Lcom/example/run_ledger/runledger/cli/ExitCode;"⟩ : MethodName)) hown (mvT hZ (hw _ (List.mem_of_getElem? (i := 1) rfl))) (mvT hZ (hw _ (List.mem_of_getElem? (i := 2) rfl))) (mvT hZ (hw _ (List.mem_of_getElem? (i := 3) rfl))) (mvT hZ (hw _ (List.mem_of_getElem? (i := 4) rfl))) (by decide) (backOf (W := 0) (r1_200 l Z a0 hw [] h0 n0 Z0 ((190 : Int32) + ((p2 &&& (2147483647 : Int32)) % (24 : Int32))) w hk200 P) hZ (hw _ (List.mem_of_getElem? (i := 4) rfl)) (hw _ (List.mem_of_getElem? (i := 3) rfl)) (by decide) (by decide)) (g := (mkF m 47 #[.val (.int p1), .val (.int p2), .val (.int (p1 &&& (3 : Int32))), .val (.int ((p2 &&& (2147483647 : Int32)) % (24 : Int32))), .val (.int ((190 : Int32) + ((p2 &&& (2147483647 : Int32)) % (24 : Int32)))), .unset, .unset] [(.int ((190 : Int32) + ((p2 &&& (2147483647 : Int32)) % (24 : Int32))))])) rfl (by rw [hml]; rfl) (argsL := [(.int ((190 : Int32) + ((p2 &&& (2147483647 : Int32)) % (24 : Int32))))]) (rest := []) (lenOf pd0 rfl) rfl (by show 2 * 0 + _ ≤ _; exact Nat.le_of_eq rfl) (hb hby at_47) (fun _ _ => ⟨rfl, e0, (by decide : 0 + 0 ≤ _), (by decide : 0 + 0 ≤ _)⟩)
      dsimp only [Pt.U, Pt.locs, Pt.cells, Pt.slots] at X3 l3 y3 z3 st3 hQ3
      subst l3 y3 z3
      obtain ⟨rfl, Nq3, e3⟩ := hQ3
      have N3 := Fr.app N0 Nq3
      refine Goes.by st3 ?_
      refine Goes.by (fun _ kz => XS.astore X3.here hx rfl (hb hby at_50) rfl rfl (l' := #[.val (.int p1), .val (.int p2), .val (.int (p1 &&& (3 : Int32))), .val (.int ((p2 &&& (2147483647 : Int32)) % (24 : Int32))), .val (.int ((190 : Int32) + ((p2 &&& (2147483647 : Int32)) % (24 : Int32)))), .val (.ref (w 1)), .unset]) rfl (XS.iload X3.here hx rfl (hb hby at_52) rfl (XS.sipush X3.here hx rfl (hb hby at_54) kz))) ?_
      show Goes p e below (T3.setTop (mkF m 57 #[.val (.int p1), .val (.int p2), .val (.int (p1 &&& (3 : Int32))), .val (.int ((p2 &&& (2147483647 : Int32)) % (24 : Int32))), .val (.int ((190 : Int32) + ((p2 &&& (2147483647 : Int32)) % (24 : Int32)))), .val (.ref (w 1)), .unset] [(.int (200 : Int32)), (.int ((190 : Int32) + ((p2 &&& (2147483647 : Int32)) % (24 : Int32))))])) _
      refine Goes.by (fun _ kz => XS.icmpYes X3.here hx rfl (pc0 := 57) (pc' := 68) rfl (hb hby at_57) rfl (teq hk200).1 (by decide) (by decide) kz) ?_
      obtain ⟨T4, X4, e4, st4⟩ := getS2 X3 hx hZ hown (host := "") (Or.inl (hw _ (List.mem_of_getElem? (i := 10) rfl))) Via.refl e3 P.2.2.1 (g := (mkF m 68 #[.val (.int p1), .val (.int p2), .val (.int (p1 &&& (3 : Int32))), .val (.int ((p2 &&& (2147483647 : Int32)) % (24 : Int32))), .val (.int ((190 : Int32) + ((p2 &&& (2147483647 : Int32)) % (24 : Int32)))), .val (.ref (w 1)), .unset] [])) rfl (hb hby at_68)
      refine Goes.by st4 ?_
      refine Goes.by (fun _ kz => XS.astore X4.here hx rfl (hb hby at_71) rfl rfl (l' := #[.val (.int p1), .val (.int p2), .val (.int (p1 &&& (3 : Int32))), .val (.int ((p2 &&& (2147483647 : Int32)) % (24 : Int32))), .val (.int ((190 : Int32) + ((p2 &&& (2147483647 : Int32)) % (24 : Int32)))), .val (.ref (w 1)), .val (.ref (w 1))]) rfl (XS.goto X4.here hx rfl (pc0 := 73) (pc' := 153) rfl (hb hby at_73) (by decide) (by decide) (XS.aload X4.here hx rfl (hb hby at_153) rfl rfl kz))) ?_
      show Goes p e below (T4.setTop (mkF m 155 #[.val (.int p1), .val (.int p2), .val (.int (p1 &&& (3 : Int32))), .val (.int ((p2 &&& (2147483647 : Int32)) % (24 : Int32))), .val (.int ((190 : Int32) + ((p2 &&& (2147483647 : Int32)) % (24 : Int32)))), .val (.ref (w 1)), .val (.ref (w 1))] [(.ref (w 1))])) _
      refine Goes.by (fun _ kz => XS.aload X4.here hx rfl (hb hby at_155) rfl rfl (Jvm.RoadKit.acmp (g := (mkF m 157 #[.val (.int p1), .val (.int p2), .val (.int (p1 &&& (3 : Int32))), .val (.int ((p2 &&& (2147483647 : Int32)) % (24 : Int32))), .val (.int ((190 : Int32) + ((p2 &&& (2147483647 : Int32)) % (24 : Int32)))), .val (.ref (w 1)), .val (.ref (w 1))] [(.ref (w 1)), (.ref (w 1))])) X4 hx rfl rfl rfl (pc0 := 157) (pc' := 160) (same := true) rfl (hb hby at_157) rfl (decide_eq_true rfl) (by decide) (by decide) (XS.iconst X4.here hx rfl (hb hby at_160) kz))) ?_
      show Goes p e below (T4.setTop (mkF m 161 #[.val (.int p1), .val (.int p2), .val (.int (p1 &&& (3 : Int32))), .val (.int ((p2 &&& (2147483647 : Int32)) % (24 : Int32))), .val (.int ((190 : Int32) + ((p2 &&& (2147483647 : Int32)) % (24 : Int32)))), .val (.ref (w 1)), .val (.ref (w 1))] [(.int (1 : Int32))])) _
      refine Goes.by (fun _ kz => XS.goto X4.here hx rfl (pc0 := 161) (pc' := 165) rfl (hb hby at_161) (by decide) (by decide) kz) ?_
      show Goes p e below (T4.setTop (mkF m 165 #[.val (.int p1), .val (.int p2), .val (.int (p1 &&& (3 : Int32))), .val (.int ((p2 &&& (2147483647 : Int32)) % (24 : Int32))), .val (.int ((190 : Int32) + ((p2 &&& (2147483647 : Int32)) % (24 : Int32)))), .val (.ref (w 1)), .val (.ref (w 1))] [(.int (1 : Int32))])) _
      obtain ⟨fs, hr, hrun, hended, hW, hsame⟩ := X4.leave (v := some (.int (1 : Int32))) (fun h => by rw [Bd.returns] at h; cases h)
      exact ⟨_, _, retN X4 hx (t := .boolean) Bd.returns (by simp) (hb hby at_165) hr, hrun, hended, _, _, rfl, ⟨rfl, N3⟩, ⟨_, rfl⟩, hW, hsame.mono (by decide) (by decide)⟩
    by_cases hk201 : ((190 : Int32) + ((p2 &&& (2147483647 : Int32)) % (24 : Int32))) = (201 : Int32)
    · show Goes p e below (s₁.setTop (mkF m 45 #[.val (.int p1), .val (.int p2), .val (.int (p1 &&& (3 : Int32))), .val (.int ((p2 &&& (2147483647 : Int32)) % (24 : Int32))), .val (.int ((190 : Int32) + ((p2 &&& (2147483647 : Int32)) % (24 : Int32)))), .unset, .unset] [])) _
      refine Goes.by (fun _ kz => XS.iload X0.here hx rfl (hb hby at_45) rfl kz) ?_
      obtain ⟨_, _, ⟨T6, L6, k6, n6⟩, -, X6, ⟨Lc6, hQ6, l6, y6, z6⟩, st6⟩ := Jvm.LawKit.callS X0 hx (y := (⟨"com/example/run_ledger/runledger/cli/ExitCode", "forAnswer", "(I)Lcom/example/run_ledger/runledger/cli/ExitCode;"⟩ : MethodName)) hown (mvT hZ (hw _ (List.mem_of_getElem? (i := 1) rfl))) (mvT hZ (hw _ (List.mem_of_getElem? (i := 2) rfl))) (mvT hZ (hw _ (List.mem_of_getElem? (i := 3) rfl))) (mvT hZ (hw _ (List.mem_of_getElem? (i := 4) rfl))) (by decide) (backOf (W := 0) (r1_201 l Z a0 hw [] h0 n0 Z0 ((190 : Int32) + ((p2 &&& (2147483647 : Int32)) % (24 : Int32))) w hk201 P) hZ (hw _ (List.mem_of_getElem? (i := 4) rfl)) (hw _ (List.mem_of_getElem? (i := 3) rfl)) (by decide) (by decide)) (g := (mkF m 47 #[.val (.int p1), .val (.int p2), .val (.int (p1 &&& (3 : Int32))), .val (.int ((p2 &&& (2147483647 : Int32)) % (24 : Int32))), .val (.int ((190 : Int32) + ((p2 &&& (2147483647 : Int32)) % (24 : Int32)))), .unset, .unset] [(.int ((190 : Int32) + ((p2 &&& (2147483647 : Int32)) % (24 : Int32))))])) rfl (by rw [hml]; rfl) (argsL := [(.int ((190 : Int32) + ((p2 &&& (2147483647 : Int32)) % (24 : Int32))))]) (rest := []) (lenOf pd0 rfl) rfl (by show 2 * 0 + _ ≤ _; exact Nat.le_of_eq rfl) (hb hby at_47) (fun _ _ => ⟨rfl, e0, (by decide : 0 + 0 ≤ _), (by decide : 0 + 0 ≤ _)⟩)
      dsimp only [Pt.U, Pt.locs, Pt.cells, Pt.slots] at X6 l6 y6 z6 st6 hQ6
      subst l6 y6 z6
      obtain ⟨rfl, Nq6, e6⟩ := hQ6
      have N6 := Fr.app N0 Nq6
      refine Goes.by st6 ?_
      refine Goes.by (fun _ kz => XS.astore X6.here hx rfl (hb hby at_50) rfl rfl (l' := #[.val (.int p1), .val (.int p2), .val (.int (p1 &&& (3 : Int32))), .val (.int ((p2 &&& (2147483647 : Int32)) % (24 : Int32))), .val (.int ((190 : Int32) + ((p2 &&& (2147483647 : Int32)) % (24 : Int32)))), .val (.ref (w 1)), .unset]) rfl (XS.iload X6.here hx rfl (hb hby at_52) rfl (XS.sipush X6.here hx rfl (hb hby at_54) kz))) ?_
      show Goes p e below (T6.setTop (mkF m 57 #[.val (.int p1), .val (.int p2), .val (.int (p1 &&& (3 : Int32))), .val (.int ((p2 &&& (2147483647 : Int32)) % (24 : Int32))), .val (.int ((190 : Int32) + ((p2 &&& (2147483647 : Int32)) % (24 : Int32)))), .val (.ref (w 1)), .unset] [(.int (200 : Int32)), (.int ((190 : Int32) + ((p2 &&& (2147483647 : Int32)) % (24 : Int32))))])) _
      refine Goes.by (fun _ kz => XS.icmpNo X6.here hx rfl (hb hby at_57) rfl (feq hk200).1 (XS.iload X6.here hx rfl (hb hby at_60) rfl (XS.sipush X6.here hx rfl (hb hby at_62) kz))) ?_
      show Goes p e below (T6.setTop (mkF m 65 #[.val (.int p1), .val (.int p2), .val (.int (p1 &&& (3 : Int32))), .val (.int ((p2 &&& (2147483647 : Int32)) % (24 : Int32))), .val (.int ((190 : Int32) + ((p2 &&& (2147483647 : Int32)) % (24 : Int32)))), .val (.ref (w 1)), .unset] [(.int (201 : Int32)), (.int ((190 : Int32) + ((p2 &&& (2147483647 : Int32)) % (24 : Int32))))])) _
      refine Goes.by (fun _ kz => XS.icmpNo X6.here hx rfl (hb hby at_65) rfl (teq hk201).2 kz) ?_
      obtain ⟨T7, X7, e7, st7⟩ := getS2 X6 hx hZ hown (host := "") (Or.inl (hw _ (List.mem_of_getElem? (i := 10) rfl))) Via.refl e6 P.2.2.1 (g := (mkF m 68 #[.val (.int p1), .val (.int p2), .val (.int (p1 &&& (3 : Int32))), .val (.int ((p2 &&& (2147483647 : Int32)) % (24 : Int32))), .val (.int ((190 : Int32) + ((p2 &&& (2147483647 : Int32)) % (24 : Int32)))), .val (.ref (w 1)), .unset] [])) rfl (hb hby at_68)
      refine Goes.by st7 ?_
      refine Goes.by (fun _ kz => XS.astore X7.here hx rfl (hb hby at_71) rfl rfl (l' := #[.val (.int p1), .val (.int p2), .val (.int (p1 &&& (3 : Int32))), .val (.int ((p2 &&& (2147483647 : Int32)) % (24 : Int32))), .val (.int ((190 : Int32) + ((p2 &&& (2147483647 : Int32)) % (24 : Int32)))), .val (.ref (w 1)), .val (.ref (w 1))]) rfl (XS.goto X7.here hx rfl (pc0 := 73) (pc' := 153) rfl (hb hby at_73) (by decide) (by decide) (XS.aload X7.here hx rfl (hb hby at_153) rfl rfl kz))) ?_
      show Goes p e below (T7.setTop (mkF m 155 #[.val (.int p1), .val (.int p2), .val (.int (p1 &&& (3 : Int32))), .val (.int ((p2 &&& (2147483647 : Int32)) % (24 : Int32))), .val (.int ((190 : Int32) + ((p2 &&& (2147483647 : Int32)) % (24 : Int32)))), .val (.ref (w 1)), .val (.ref (w 1))] [(.ref (w 1))])) _
      refine Goes.by (fun _ kz => XS.aload X7.here hx rfl (hb hby at_155) rfl rfl (Jvm.RoadKit.acmp (g := (mkF m 157 #[.val (.int p1), .val (.int p2), .val (.int (p1 &&& (3 : Int32))), .val (.int ((p2 &&& (2147483647 : Int32)) % (24 : Int32))), .val (.int ((190 : Int32) + ((p2 &&& (2147483647 : Int32)) % (24 : Int32)))), .val (.ref (w 1)), .val (.ref (w 1))] [(.ref (w 1)), (.ref (w 1))])) X7 hx rfl rfl rfl (pc0 := 157) (pc' := 160) (same := true) rfl (hb hby at_157) rfl (decide_eq_true rfl) (by decide) (by decide) (XS.iconst X7.here hx rfl (hb hby at_160) kz))) ?_
      show Goes p e below (T7.setTop (mkF m 161 #[.val (.int p1), .val (.int p2), .val (.int (p1 &&& (3 : Int32))), .val (.int ((p2 &&& (2147483647 : Int32)) % (24 : Int32))), .val (.int ((190 : Int32) + ((p2 &&& (2147483647 : Int32)) % (24 : Int32)))), .val (.ref (w 1)), .val (.ref (w 1))] [(.int (1 : Int32))])) _
      refine Goes.by (fun _ kz => XS.goto X7.here hx rfl (pc0 := 161) (pc' := 165) rfl (hb hby at_161) (by decide) (by decide) kz) ?_
      show Goes p e below (T7.setTop (mkF m 165 #[.val (.int p1), .val (.int p2), .val (.int (p1 &&& (3 : Int32))), .val (.int ((p2 &&& (2147483647 : Int32)) % (24 : Int32))), .val (.int ((190 : Int32) + ((p2 &&& (2147483647 : Int32)) % (24 : Int32)))), .val (.ref (w 1)), .val (.ref (w 1))] [(.int (1 : Int32))])) _
      obtain ⟨fs, hr, hrun, hended, hW, hsame⟩ := X7.leave (v := some (.int (1 : Int32))) (fun h => by rw [Bd.returns] at h; cases h)
      exact ⟨_, _, retN X7 hx (t := .boolean) Bd.returns (by simp) (hb hby at_165) hr, hrun, hended, _, _, rfl, ⟨rfl, N6⟩, ⟨_, rfl⟩, hW, hsame.mono (by decide) (by decide)⟩
    by_cases hk204 : ((190 : Int32) + ((p2 &&& (2147483647 : Int32)) % (24 : Int32))) = (204 : Int32)
    · show Goes p e below (s₁.setTop (mkF m 45 #[.val (.int p1), .val (.int p2), .val (.int (p1 &&& (3 : Int32))), .val (.int ((p2 &&& (2147483647 : Int32)) % (24 : Int32))), .val (.int ((190 : Int32) + ((p2 &&& (2147483647 : Int32)) % (24 : Int32)))), .unset, .unset] [])) _
      refine Goes.by (fun _ kz => XS.iload X0.here hx rfl (hb hby at_45) rfl kz) ?_
      obtain ⟨_, _, ⟨T9, L9, k9, n9⟩, -, X9, ⟨Lc9, hQ9, l9, y9, z9⟩, st9⟩ := Jvm.LawKit.callS X0 hx (y := (⟨"com/example/run_ledger/runledger/cli/ExitCode", "forAnswer", "(I)Lcom/example/run_ledger/runledger/cli/ExitCode;"⟩ : MethodName)) hown (mvT hZ (hw _ (List.mem_of_getElem? (i := 1) rfl))) (mvT hZ (hw _ (List.mem_of_getElem? (i := 2) rfl))) (mvT hZ (hw _ (List.mem_of_getElem? (i := 3) rfl))) (mvT hZ (hw _ (List.mem_of_getElem? (i := 4) rfl))) (by decide) (backOf (W := 0) (r1_204 l Z a0 hw [] h0 n0 Z0 ((190 : Int32) + ((p2 &&& (2147483647 : Int32)) % (24 : Int32))) w hk204 P) hZ (hw _ (List.mem_of_getElem? (i := 4) rfl)) (hw _ (List.mem_of_getElem? (i := 3) rfl)) (by decide) (by decide)) (g := (mkF m 47 #[.val (.int p1), .val (.int p2), .val (.int (p1 &&& (3 : Int32))), .val (.int ((p2 &&& (2147483647 : Int32)) % (24 : Int32))), .val (.int ((190 : Int32) + ((p2 &&& (2147483647 : Int32)) % (24 : Int32)))), .unset, .unset] [(.int ((190 : Int32) + ((p2 &&& (2147483647 : Int32)) % (24 : Int32))))])) rfl (by rw [hml]; rfl) (argsL := [(.int ((190 : Int32) + ((p2 &&& (2147483647 : Int32)) % (24 : Int32))))]) (rest := []) (lenOf pd0 rfl) rfl (by show 2 * 0 + _ ≤ _; exact Nat.le_of_eq rfl) (hb hby at_47) (fun _ _ => ⟨rfl, e0, (by decide : 0 + 0 ≤ _), (by decide : 0 + 0 ≤ _)⟩)
      dsimp only [Pt.U, Pt.locs, Pt.cells, Pt.slots] at X9 l9 y9 z9 st9 hQ9
      subst l9 y9 z9
      obtain ⟨rfl, Nq9, e9⟩ := hQ9
      have N9 := Fr.app N0 Nq9
      refine Goes.by st9 ?_
      refine Goes.by (fun _ kz => XS.astore X9.here hx rfl (hb hby at_50) rfl rfl (l' := #[.val (.int p1), .val (.int p2), .val (.int (p1 &&& (3 : Int32))), .val (.int ((p2 &&& (2147483647 : Int32)) % (24 : Int32))), .val (.int ((190 : Int32) + ((p2 &&& (2147483647 : Int32)) % (24 : Int32)))), .val (.ref (w 4)), .unset]) rfl (XS.iload X9.here hx rfl (hb hby at_52) rfl (XS.sipush X9.here hx rfl (hb hby at_54) kz))) ?_
      show Goes p e below (T9.setTop (mkF m 57 #[.val (.int p1), .val (.int p2), .val (.int (p1 &&& (3 : Int32))), .val (.int ((p2 &&& (2147483647 : Int32)) % (24 : Int32))), .val (.int ((190 : Int32) + ((p2 &&& (2147483647 : Int32)) % (24 : Int32)))), .val (.ref (w 4)), .unset] [(.int (200 : Int32)), (.int ((190 : Int32) + ((p2 &&& (2147483647 : Int32)) % (24 : Int32))))])) _
      refine Goes.by (fun _ kz => XS.icmpNo X9.here hx rfl (hb hby at_57) rfl (feq hk200).1 (XS.iload X9.here hx rfl (hb hby at_60) rfl (XS.sipush X9.here hx rfl (hb hby at_62) kz))) ?_
      show Goes p e below (T9.setTop (mkF m 65 #[.val (.int p1), .val (.int p2), .val (.int (p1 &&& (3 : Int32))), .val (.int ((p2 &&& (2147483647 : Int32)) % (24 : Int32))), .val (.int ((190 : Int32) + ((p2 &&& (2147483647 : Int32)) % (24 : Int32)))), .val (.ref (w 4)), .unset] [(.int (201 : Int32)), (.int ((190 : Int32) + ((p2 &&& (2147483647 : Int32)) % (24 : Int32))))])) _
      refine Goes.by (fun _ kz => XS.icmpYes X9.here hx rfl (pc0 := 65) (pc' := 76) rfl (hb hby at_65) rfl (feq hk201).2 (by decide) (by decide) (XS.iload X9.here hx rfl (hb hby at_76) rfl (XS.sipush X9.here hx rfl (hb hby at_78) kz))) ?_
      show Goes p e below (T9.setTop (mkF m 81 #[.val (.int p1), .val (.int p2), .val (.int (p1 &&& (3 : Int32))), .val (.int ((p2 &&& (2147483647 : Int32)) % (24 : Int32))), .val (.int ((190 : Int32) + ((p2 &&& (2147483647 : Int32)) % (24 : Int32)))), .val (.ref (w 4)), .unset] [(.int (204 : Int32)), (.int ((190 : Int32) + ((p2 &&& (2147483647 : Int32)) % (24 : Int32))))])) _
      refine Goes.by (fun _ kz => XS.icmpNo X9.here hx rfl (hb hby at_81) rfl (teq hk204).2 kz) ?_
      obtain ⟨T10, X10, e10, st10⟩ := getS2 X9 hx hZ hown (host := "") (Or.inl (hw _ (List.mem_of_getElem? (i := 19) rfl))) Via.refl e9 P.2.2.2.2.2.2.2.2.1 (g := (mkF m 84 #[.val (.int p1), .val (.int p2), .val (.int (p1 &&& (3 : Int32))), .val (.int ((p2 &&& (2147483647 : Int32)) % (24 : Int32))), .val (.int ((190 : Int32) + ((p2 &&& (2147483647 : Int32)) % (24 : Int32)))), .val (.ref (w 4)), .unset] [])) rfl (hb hby at_84)
      refine Goes.by st10 ?_
      refine Goes.by (fun _ kz => XS.astore X10.here hx rfl (hb hby at_87) rfl rfl (l' := #[.val (.int p1), .val (.int p2), .val (.int (p1 &&& (3 : Int32))), .val (.int ((p2 &&& (2147483647 : Int32)) % (24 : Int32))), .val (.int ((190 : Int32) + ((p2 &&& (2147483647 : Int32)) % (24 : Int32)))), .val (.ref (w 4)), .val (.ref (w 4))]) rfl (XS.goto X10.here hx rfl (pc0 := 89) (pc' := 153) rfl (hb hby at_89) (by decide) (by decide) (XS.aload X10.here hx rfl (hb hby at_153) rfl rfl kz))) ?_
      show Goes p e below (T10.setTop (mkF m 155 #[.val (.int p1), .val (.int p2), .val (.int (p1 &&& (3 : Int32))), .val (.int ((p2 &&& (2147483647 : Int32)) % (24 : Int32))), .val (.int ((190 : Int32) + ((p2 &&& (2147483647 : Int32)) % (24 : Int32)))), .val (.ref (w 4)), .val (.ref (w 4))] [(.ref (w 4))])) _
      refine Goes.by (fun _ kz => XS.aload X10.here hx rfl (hb hby at_155) rfl rfl (Jvm.RoadKit.acmp (g := (mkF m 157 #[.val (.int p1), .val (.int p2), .val (.int (p1 &&& (3 : Int32))), .val (.int ((p2 &&& (2147483647 : Int32)) % (24 : Int32))), .val (.int ((190 : Int32) + ((p2 &&& (2147483647 : Int32)) % (24 : Int32)))), .val (.ref (w 4)), .val (.ref (w 4))] [(.ref (w 4)), (.ref (w 4))])) X10 hx rfl rfl rfl (pc0 := 157) (pc' := 160) (same := true) rfl (hb hby at_157) rfl (decide_eq_true rfl) (by decide) (by decide) (XS.iconst X10.here hx rfl (hb hby at_160) kz))) ?_
      show Goes p e below (T10.setTop (mkF m 161 #[.val (.int p1), .val (.int p2), .val (.int (p1 &&& (3 : Int32))), .val (.int ((p2 &&& (2147483647 : Int32)) % (24 : Int32))), .val (.int ((190 : Int32) + ((p2 &&& (2147483647 : Int32)) % (24 : Int32)))), .val (.ref (w 4)), .val (.ref (w 4))] [(.int (1 : Int32))])) _
      refine Goes.by (fun _ kz => XS.goto X10.here hx rfl (pc0 := 161) (pc' := 165) rfl (hb hby at_161) (by decide) (by decide) kz) ?_
      show Goes p e below (T10.setTop (mkF m 165 #[.val (.int p1), .val (.int p2), .val (.int (p1 &&& (3 : Int32))), .val (.int ((p2 &&& (2147483647 : Int32)) % (24 : Int32))), .val (.int ((190 : Int32) + ((p2 &&& (2147483647 : Int32)) % (24 : Int32)))), .val (.ref (w 4)), .val (.ref (w 4))] [(.int (1 : Int32))])) _
      obtain ⟨fs, hr, hrun, hended, hW, hsame⟩ := X10.leave (v := some (.int (1 : Int32))) (fun h => by rw [Bd.returns] at h; cases h)
      exact ⟨_, _, retN X10 hx (t := .boolean) Bd.returns (by simp) (hb hby at_165) hr, hrun, hended, _, _, rfl, ⟨rfl, N9⟩, ⟨_, rfl⟩, hW, hsame.mono (by decide) (by decide)⟩
    by_cases hk400 : ((190 : Int32) + ((p2 &&& (2147483647 : Int32)) % (24 : Int32))) = (400 : Int32)
    · show Goes p e below (s₁.setTop (mkF m 45 #[.val (.int p1), .val (.int p2), .val (.int (p1 &&& (3 : Int32))), .val (.int ((p2 &&& (2147483647 : Int32)) % (24 : Int32))), .val (.int ((190 : Int32) + ((p2 &&& (2147483647 : Int32)) % (24 : Int32)))), .unset, .unset] [])) _
      refine Goes.by (fun _ kz => XS.iload X0.here hx rfl (hb hby at_45) rfl kz) ?_
      obtain ⟨_, _, ⟨T12, L12, k12, n12⟩, -, X12, ⟨Lc12, hQ12, l12, y12, z12⟩, st12⟩ := Jvm.LawKit.callS X0 hx (y := (⟨"com/example/run_ledger/runledger/cli/ExitCode", "forAnswer", "(I)Lcom/example/run_ledger/runledger/cli/ExitCode;"⟩ : MethodName)) hown (mvT hZ (hw _ (List.mem_of_getElem? (i := 1) rfl))) (mvT hZ (hw _ (List.mem_of_getElem? (i := 2) rfl))) (mvT hZ (hw _ (List.mem_of_getElem? (i := 3) rfl))) (mvT hZ (hw _ (List.mem_of_getElem? (i := 4) rfl))) (by decide) (backOf (W := 0) (r1_400 l Z a0 hw [] h0 n0 Z0 ((190 : Int32) + ((p2 &&& (2147483647 : Int32)) % (24 : Int32))) w hk400 P) hZ (hw _ (List.mem_of_getElem? (i := 4) rfl)) (hw _ (List.mem_of_getElem? (i := 3) rfl)) (by decide) (by decide)) (g := (mkF m 47 #[.val (.int p1), .val (.int p2), .val (.int (p1 &&& (3 : Int32))), .val (.int ((p2 &&& (2147483647 : Int32)) % (24 : Int32))), .val (.int ((190 : Int32) + ((p2 &&& (2147483647 : Int32)) % (24 : Int32)))), .unset, .unset] [(.int ((190 : Int32) + ((p2 &&& (2147483647 : Int32)) % (24 : Int32))))])) rfl (by rw [hml]; rfl) (argsL := [(.int ((190 : Int32) + ((p2 &&& (2147483647 : Int32)) % (24 : Int32))))]) (rest := []) (lenOf pd0 rfl) rfl (by show 2 * 0 + _ ≤ _; exact Nat.le_of_eq rfl) (hb hby at_47) (fun _ _ => ⟨rfl, e0, (by decide : 0 + 0 ≤ _), (by decide : 0 + 0 ≤ _)⟩)
      dsimp only [Pt.U, Pt.locs, Pt.cells, Pt.slots] at X12 l12 y12 z12 st12 hQ12
      subst l12 y12 z12
      obtain ⟨rfl, Nq12, e12⟩ := hQ12
      have N12 := Fr.app N0 Nq12
      refine Goes.by st12 ?_
      refine Goes.by (fun _ kz => XS.astore X12.here hx rfl (hb hby at_50) rfl rfl (l' := #[.val (.int p1), .val (.int p2), .val (.int (p1 &&& (3 : Int32))), .val (.int ((p2 &&& (2147483647 : Int32)) % (24 : Int32))), .val (.int ((190 : Int32) + ((p2 &&& (2147483647 : Int32)) % (24 : Int32)))), .val (.ref (w 2)), .unset]) rfl (XS.iload X12.here hx rfl (hb hby at_52) rfl (XS.sipush X12.here hx rfl (hb hby at_54) kz))) ?_
      show Goes p e below (T12.setTop (mkF m 57 #[.val (.int p1), .val (.int p2), .val (.int (p1 &&& (3 : Int32))), .val (.int ((p2 &&& (2147483647 : Int32)) % (24 : Int32))), .val (.int ((190 : Int32) + ((p2 &&& (2147483647 : Int32)) % (24 : Int32)))), .val (.ref (w 2)), .unset] [(.int (200 : Int32)), (.int ((190 : Int32) + ((p2 &&& (2147483647 : Int32)) % (24 : Int32))))])) _
      refine Goes.by (fun _ kz => XS.icmpNo X12.here hx rfl (hb hby at_57) rfl (feq hk200).1 (XS.iload X12.here hx rfl (hb hby at_60) rfl (XS.sipush X12.here hx rfl (hb hby at_62) kz))) ?_
      show Goes p e below (T12.setTop (mkF m 65 #[.val (.int p1), .val (.int p2), .val (.int (p1 &&& (3 : Int32))), .val (.int ((p2 &&& (2147483647 : Int32)) % (24 : Int32))), .val (.int ((190 : Int32) + ((p2 &&& (2147483647 : Int32)) % (24 : Int32)))), .val (.ref (w 2)), .unset] [(.int (201 : Int32)), (.int ((190 : Int32) + ((p2 &&& (2147483647 : Int32)) % (24 : Int32))))])) _
      refine Goes.by (fun _ kz => XS.icmpYes X12.here hx rfl (pc0 := 65) (pc' := 76) rfl (hb hby at_65) rfl (feq hk201).2 (by decide) (by decide) (XS.iload X12.here hx rfl (hb hby at_76) rfl (XS.sipush X12.here hx rfl (hb hby at_78) kz))) ?_
      show Goes p e below (T12.setTop (mkF m 81 #[.val (.int p1), .val (.int p2), .val (.int (p1 &&& (3 : Int32))), .val (.int ((p2 &&& (2147483647 : Int32)) % (24 : Int32))), .val (.int ((190 : Int32) + ((p2 &&& (2147483647 : Int32)) % (24 : Int32)))), .val (.ref (w 2)), .unset] [(.int (204 : Int32)), (.int ((190 : Int32) + ((p2 &&& (2147483647 : Int32)) % (24 : Int32))))])) _
      refine Goes.by (fun _ kz => XS.icmpYes X12.here hx rfl (pc0 := 81) (pc' := 92) rfl (hb hby at_81) rfl (feq hk204).2 (by decide) (by decide) (XS.iload X12.here hx rfl (hb hby at_92) rfl (XS.sipush X12.here hx rfl (hb hby at_94) kz))) ?_
      show Goes p e below (T12.setTop (mkF m 97 #[.val (.int p1), .val (.int p2), .val (.int (p1 &&& (3 : Int32))), .val (.int ((p2 &&& (2147483647 : Int32)) % (24 : Int32))), .val (.int ((190 : Int32) + ((p2 &&& (2147483647 : Int32)) % (24 : Int32)))), .val (.ref (w 2)), .unset] [(.int (400 : Int32)), (.int ((190 : Int32) + ((p2 &&& (2147483647 : Int32)) % (24 : Int32))))])) _
      refine Goes.by (fun _ kz => XS.icmpYes X12.here hx rfl (pc0 := 97) (pc' := 108) rfl (hb hby at_97) rfl (teq hk400).1 (by decide) (by decide) kz) ?_
      obtain ⟨T13, X13, e13, st13⟩ := getS2 X12 hx hZ hown (host := "") (Or.inl (hw _ (List.mem_of_getElem? (i := 13) rfl))) Via.refl e12 P.2.2.2.2.1 (g := (mkF m 108 #[.val (.int p1), .val (.int p2), .val (.int (p1 &&& (3 : Int32))), .val (.int ((p2 &&& (2147483647 : Int32)) % (24 : Int32))), .val (.int ((190 : Int32) + ((p2 &&& (2147483647 : Int32)) % (24 : Int32)))), .val (.ref (w 2)), .unset] [])) rfl (hb hby at_108)
      refine Goes.by st13 ?_
      refine Goes.by (fun _ kz => XS.astore X13.here hx rfl (hb hby at_111) rfl rfl (l' := #[.val (.int p1), .val (.int p2), .val (.int (p1 &&& (3 : Int32))), .val (.int ((p2 &&& (2147483647 : Int32)) % (24 : Int32))), .val (.int ((190 : Int32) + ((p2 &&& (2147483647 : Int32)) % (24 : Int32)))), .val (.ref (w 2)), .val (.ref (w 2))]) rfl (XS.goto X13.here hx rfl (pc0 := 113) (pc' := 153) rfl (hb hby at_113) (by decide) (by decide) (XS.aload X13.here hx rfl (hb hby at_153) rfl rfl kz))) ?_
      show Goes p e below (T13.setTop (mkF m 155 #[.val (.int p1), .val (.int p2), .val (.int (p1 &&& (3 : Int32))), .val (.int ((p2 &&& (2147483647 : Int32)) % (24 : Int32))), .val (.int ((190 : Int32) + ((p2 &&& (2147483647 : Int32)) % (24 : Int32)))), .val (.ref (w 2)), .val (.ref (w 2))] [(.ref (w 2))])) _
      refine Goes.by (fun _ kz => XS.aload X13.here hx rfl (hb hby at_155) rfl rfl (Jvm.RoadKit.acmp (g := (mkF m 157 #[.val (.int p1), .val (.int p2), .val (.int (p1 &&& (3 : Int32))), .val (.int ((p2 &&& (2147483647 : Int32)) % (24 : Int32))), .val (.int ((190 : Int32) + ((p2 &&& (2147483647 : Int32)) % (24 : Int32)))), .val (.ref (w 2)), .val (.ref (w 2))] [(.ref (w 2)), (.ref (w 2))])) X13 hx rfl rfl rfl (pc0 := 157) (pc' := 160) (same := true) rfl (hb hby at_157) rfl (decide_eq_true rfl) (by decide) (by decide) (XS.iconst X13.here hx rfl (hb hby at_160) kz))) ?_
      show Goes p e below (T13.setTop (mkF m 161 #[.val (.int p1), .val (.int p2), .val (.int (p1 &&& (3 : Int32))), .val (.int ((p2 &&& (2147483647 : Int32)) % (24 : Int32))), .val (.int ((190 : Int32) + ((p2 &&& (2147483647 : Int32)) % (24 : Int32)))), .val (.ref (w 2)), .val (.ref (w 2))] [(.int (1 : Int32))])) _
      refine Goes.by (fun _ kz => XS.goto X13.here hx rfl (pc0 := 161) (pc' := 165) rfl (hb hby at_161) (by decide) (by decide) kz) ?_
      show Goes p e below (T13.setTop (mkF m 165 #[.val (.int p1), .val (.int p2), .val (.int (p1 &&& (3 : Int32))), .val (.int ((p2 &&& (2147483647 : Int32)) % (24 : Int32))), .val (.int ((190 : Int32) + ((p2 &&& (2147483647 : Int32)) % (24 : Int32)))), .val (.ref (w 2)), .val (.ref (w 2))] [(.int (1 : Int32))])) _
      obtain ⟨fs, hr, hrun, hended, hW, hsame⟩ := X13.leave (v := some (.int (1 : Int32))) (fun h => by rw [Bd.returns] at h; cases h)
      exact ⟨_, _, retN X13 hx (t := .boolean) Bd.returns (by simp) (hb hby at_165) hr, hrun, hended, _, _, rfl, ⟨rfl, N12⟩, ⟨_, rfl⟩, hW, hsame.mono (by decide) (by decide)⟩
    by_cases hk404 : ((190 : Int32) + ((p2 &&& (2147483647 : Int32)) % (24 : Int32))) = (404 : Int32)
    · show Goes p e below (s₁.setTop (mkF m 45 #[.val (.int p1), .val (.int p2), .val (.int (p1 &&& (3 : Int32))), .val (.int ((p2 &&& (2147483647 : Int32)) % (24 : Int32))), .val (.int ((190 : Int32) + ((p2 &&& (2147483647 : Int32)) % (24 : Int32)))), .unset, .unset] [])) _
      refine Goes.by (fun _ kz => XS.iload X0.here hx rfl (hb hby at_45) rfl kz) ?_
      obtain ⟨_, _, ⟨T15, L15, k15, n15⟩, -, X15, ⟨Lc15, hQ15, l15, y15, z15⟩, st15⟩ := Jvm.LawKit.callS X0 hx (y := (⟨"com/example/run_ledger/runledger/cli/ExitCode", "forAnswer", "(I)Lcom/example/run_ledger/runledger/cli/ExitCode;"⟩ : MethodName)) hown (mvT hZ (hw _ (List.mem_of_getElem? (i := 1) rfl))) (mvT hZ (hw _ (List.mem_of_getElem? (i := 2) rfl))) (mvT hZ (hw _ (List.mem_of_getElem? (i := 3) rfl))) (mvT hZ (hw _ (List.mem_of_getElem? (i := 4) rfl))) (by decide) (backOf (W := 0) (r1_404 l Z a0 hw [] h0 n0 Z0 ((190 : Int32) + ((p2 &&& (2147483647 : Int32)) % (24 : Int32))) w hk404 P) hZ (hw _ (List.mem_of_getElem? (i := 4) rfl)) (hw _ (List.mem_of_getElem? (i := 3) rfl)) (by decide) (by decide)) (g := (mkF m 47 #[.val (.int p1), .val (.int p2), .val (.int (p1 &&& (3 : Int32))), .val (.int ((p2 &&& (2147483647 : Int32)) % (24 : Int32))), .val (.int ((190 : Int32) + ((p2 &&& (2147483647 : Int32)) % (24 : Int32)))), .unset, .unset] [(.int ((190 : Int32) + ((p2 &&& (2147483647 : Int32)) % (24 : Int32))))])) rfl (by rw [hml]; rfl) (argsL := [(.int ((190 : Int32) + ((p2 &&& (2147483647 : Int32)) % (24 : Int32))))]) (rest := []) (lenOf pd0 rfl) rfl (by show 2 * 0 + _ ≤ _; exact Nat.le_of_eq rfl) (hb hby at_47) (fun _ _ => ⟨rfl, e0, (by decide : 0 + 0 ≤ _), (by decide : 0 + 0 ≤ _)⟩)
      dsimp only [Pt.U, Pt.locs, Pt.cells, Pt.slots] at X15 l15 y15 z15 st15 hQ15
      subst l15 y15 z15
      obtain ⟨rfl, Nq15, e15⟩ := hQ15
      have N15 := Fr.app N0 Nq15
      refine Goes.by st15 ?_
      refine Goes.by (fun _ kz => XS.astore X15.here hx rfl (hb hby at_50) rfl rfl (l' := #[.val (.int p1), .val (.int p2), .val (.int (p1 &&& (3 : Int32))), .val (.int ((p2 &&& (2147483647 : Int32)) % (24 : Int32))), .val (.int ((190 : Int32) + ((p2 &&& (2147483647 : Int32)) % (24 : Int32)))), .val (.ref (w 2)), .unset]) rfl (XS.iload X15.here hx rfl (hb hby at_52) rfl (XS.sipush X15.here hx rfl (hb hby at_54) kz))) ?_
      show Goes p e below (T15.setTop (mkF m 57 #[.val (.int p1), .val (.int p2), .val (.int (p1 &&& (3 : Int32))), .val (.int ((p2 &&& (2147483647 : Int32)) % (24 : Int32))), .val (.int ((190 : Int32) + ((p2 &&& (2147483647 : Int32)) % (24 : Int32)))), .val (.ref (w 2)), .unset] [(.int (200 : Int32)), (.int ((190 : Int32) + ((p2 &&& (2147483647 : Int32)) % (24 : Int32))))])) _
      refine Goes.by (fun _ kz => XS.icmpNo X15.here hx rfl (hb hby at_57) rfl (feq hk200).1 (XS.iload X15.here hx rfl (hb hby at_60) rfl (XS.sipush X15.here hx rfl (hb hby at_62) kz))) ?_
      show Goes p e below (T15.setTop (mkF m 65 #[.val (.int p1), .val (.int p2), .val (.int (p1 &&& (3 : Int32))), .val (.int ((p2 &&& (2147483647 : Int32)) % (24 : Int32))), .val (.int ((190 : Int32) + ((p2 &&& (2147483647 : Int32)) % (24 : Int32)))), .val (.ref (w 2)), .unset] [(.int (201 : Int32)), (.int ((190 : Int32) + ((p2 &&& (2147483647 : Int32)) % (24 : Int32))))])) _
      refine Goes.by (fun _ kz => XS.icmpYes X15.here hx rfl (pc0 := 65) (pc' := 76) rfl (hb hby at_65) rfl (feq hk201).2 (by decide) (by decide) (XS.iload X15.here hx rfl (hb hby at_76) rfl (XS.sipush X15.here hx rfl (hb hby at_78) kz))) ?_
      show Goes p e below (T15.setTop (mkF m 81 #[.val (.int p1), .val (.int p2), .val (.int (p1 &&& (3 : Int32))), .val (.int ((p2 &&& (2147483647 : Int32)) % (24 : Int32))), .val (.int ((190 : Int32) + ((p2 &&& (2147483647 : Int32)) % (24 : Int32)))), .val (.ref (w 2)), .unset] [(.int (204 : Int32)), (.int ((190 : Int32) + ((p2 &&& (2147483647 : Int32)) % (24 : Int32))))])) _
      refine Goes.by (fun _ kz => XS.icmpYes X15.here hx rfl (pc0 := 81) (pc' := 92) rfl (hb hby at_81) rfl (feq hk204).2 (by decide) (by decide) (XS.iload X15.here hx rfl (hb hby at_92) rfl (XS.sipush X15.here hx rfl (hb hby at_94) kz))) ?_
      show Goes p e below (T15.setTop (mkF m 97 #[.val (.int p1), .val (.int p2), .val (.int (p1 &&& (3 : Int32))), .val (.int ((p2 &&& (2147483647 : Int32)) % (24 : Int32))), .val (.int ((190 : Int32) + ((p2 &&& (2147483647 : Int32)) % (24 : Int32)))), .val (.ref (w 2)), .unset] [(.int (400 : Int32)), (.int ((190 : Int32) + ((p2 &&& (2147483647 : Int32)) % (24 : Int32))))])) _
      refine Goes.by (fun _ kz => XS.icmpNo X15.here hx rfl (hb hby at_97) rfl (feq hk400).1 (XS.iload X15.here hx rfl (hb hby at_100) rfl (XS.sipush X15.here hx rfl (hb hby at_102) kz))) ?_
      show Goes p e below (T15.setTop (mkF m 105 #[.val (.int p1), .val (.int p2), .val (.int (p1 &&& (3 : Int32))), .val (.int ((p2 &&& (2147483647 : Int32)) % (24 : Int32))), .val (.int ((190 : Int32) + ((p2 &&& (2147483647 : Int32)) % (24 : Int32)))), .val (.ref (w 2)), .unset] [(.int (404 : Int32)), (.int ((190 : Int32) + ((p2 &&& (2147483647 : Int32)) % (24 : Int32))))])) _
      refine Goes.by (fun _ kz => XS.icmpNo X15.here hx rfl (hb hby at_105) rfl (teq hk404).2 kz) ?_
      obtain ⟨T16, X16, e16, st16⟩ := getS2 X15 hx hZ hown (host := "") (Or.inl (hw _ (List.mem_of_getElem? (i := 13) rfl))) Via.refl e15 P.2.2.2.2.1 (g := (mkF m 108 #[.val (.int p1), .val (.int p2), .val (.int (p1 &&& (3 : Int32))), .val (.int ((p2 &&& (2147483647 : Int32)) % (24 : Int32))), .val (.int ((190 : Int32) + ((p2 &&& (2147483647 : Int32)) % (24 : Int32)))), .val (.ref (w 2)), .unset] [])) rfl (hb hby at_108)
      refine Goes.by st16 ?_
      refine Goes.by (fun _ kz => XS.astore X16.here hx rfl (hb hby at_111) rfl rfl (l' := #[.val (.int p1), .val (.int p2), .val (.int (p1 &&& (3 : Int32))), .val (.int ((p2 &&& (2147483647 : Int32)) % (24 : Int32))), .val (.int ((190 : Int32) + ((p2 &&& (2147483647 : Int32)) % (24 : Int32)))), .val (.ref (w 2)), .val (.ref (w 2))]) rfl (XS.goto X16.here hx rfl (pc0 := 113) (pc' := 153) rfl (hb hby at_113) (by decide) (by decide) (XS.aload X16.here hx rfl (hb hby at_153) rfl rfl kz))) ?_
      show Goes p e below (T16.setTop (mkF m 155 #[.val (.int p1), .val (.int p2), .val (.int (p1 &&& (3 : Int32))), .val (.int ((p2 &&& (2147483647 : Int32)) % (24 : Int32))), .val (.int ((190 : Int32) + ((p2 &&& (2147483647 : Int32)) % (24 : Int32)))), .val (.ref (w 2)), .val (.ref (w 2))] [(.ref (w 2))])) _
      refine Goes.by (fun _ kz => XS.aload X16.here hx rfl (hb hby at_155) rfl rfl (Jvm.RoadKit.acmp (g := (mkF m 157 #[.val (.int p1), .val (.int p2), .val (.int (p1 &&& (3 : Int32))), .val (.int ((p2 &&& (2147483647 : Int32)) % (24 : Int32))), .val (.int ((190 : Int32) + ((p2 &&& (2147483647 : Int32)) % (24 : Int32)))), .val (.ref (w 2)), .val (.ref (w 2))] [(.ref (w 2)), (.ref (w 2))])) X16 hx rfl rfl rfl (pc0 := 157) (pc' := 160) (same := true) rfl (hb hby at_157) rfl (decide_eq_true rfl) (by decide) (by decide) (XS.iconst X16.here hx rfl (hb hby at_160) kz))) ?_
      show Goes p e below (T16.setTop (mkF m 161 #[.val (.int p1), .val (.int p2), .val (.int (p1 &&& (3 : Int32))), .val (.int ((p2 &&& (2147483647 : Int32)) % (24 : Int32))), .val (.int ((190 : Int32) + ((p2 &&& (2147483647 : Int32)) % (24 : Int32)))), .val (.ref (w 2)), .val (.ref (w 2))] [(.int (1 : Int32))])) _
      refine Goes.by (fun _ kz => XS.goto X16.here hx rfl (pc0 := 161) (pc' := 165) rfl (hb hby at_161) (by decide) (by decide) kz) ?_
      show Goes p e below (T16.setTop (mkF m 165 #[.val (.int p1), .val (.int p2), .val (.int (p1 &&& (3 : Int32))), .val (.int ((p2 &&& (2147483647 : Int32)) % (24 : Int32))), .val (.int ((190 : Int32) + ((p2 &&& (2147483647 : Int32)) % (24 : Int32)))), .val (.ref (w 2)), .val (.ref (w 2))] [(.int (1 : Int32))])) _
      obtain ⟨fs, hr, hrun, hended, hW, hsame⟩ := X16.leave (v := some (.int (1 : Int32))) (fun h => by rw [Bd.returns] at h; cases h)
      exact ⟨_, _, retN X16 hx (t := .boolean) Bd.returns (by simp) (hb hby at_165) hr, hrun, hended, _, _, rfl, ⟨rfl, N15⟩, ⟨_, rfl⟩, hW, hsame.mono (by decide) (by decide)⟩
    by_cases hk409 : ((190 : Int32) + ((p2 &&& (2147483647 : Int32)) % (24 : Int32))) = (409 : Int32)
    · show Goes p e below (s₁.setTop (mkF m 45 #[.val (.int p1), .val (.int p2), .val (.int (p1 &&& (3 : Int32))), .val (.int ((p2 &&& (2147483647 : Int32)) % (24 : Int32))), .val (.int ((190 : Int32) + ((p2 &&& (2147483647 : Int32)) % (24 : Int32)))), .unset, .unset] [])) _
      refine Goes.by (fun _ kz => XS.iload X0.here hx rfl (hb hby at_45) rfl kz) ?_
      obtain ⟨_, _, ⟨T18, L18, k18, n18⟩, -, X18, ⟨Lc18, hQ18, l18, y18, z18⟩, st18⟩ := Jvm.LawKit.callS X0 hx (y := (⟨"com/example/run_ledger/runledger/cli/ExitCode", "forAnswer", "(I)Lcom/example/run_ledger/runledger/cli/ExitCode;"⟩ : MethodName)) hown (mvT hZ (hw _ (List.mem_of_getElem? (i := 1) rfl))) (mvT hZ (hw _ (List.mem_of_getElem? (i := 2) rfl))) (mvT hZ (hw _ (List.mem_of_getElem? (i := 3) rfl))) (mvT hZ (hw _ (List.mem_of_getElem? (i := 4) rfl))) (by decide) (backOf (W := 0) (r1_409 l Z a0 hw [] h0 n0 Z0 ((190 : Int32) + ((p2 &&& (2147483647 : Int32)) % (24 : Int32))) w hk409 P) hZ (hw _ (List.mem_of_getElem? (i := 4) rfl)) (hw _ (List.mem_of_getElem? (i := 3) rfl)) (by decide) (by decide)) (g := (mkF m 47 #[.val (.int p1), .val (.int p2), .val (.int (p1 &&& (3 : Int32))), .val (.int ((p2 &&& (2147483647 : Int32)) % (24 : Int32))), .val (.int ((190 : Int32) + ((p2 &&& (2147483647 : Int32)) % (24 : Int32)))), .unset, .unset] [(.int ((190 : Int32) + ((p2 &&& (2147483647 : Int32)) % (24 : Int32))))])) rfl (by rw [hml]; rfl) (argsL := [(.int ((190 : Int32) + ((p2 &&& (2147483647 : Int32)) % (24 : Int32))))]) (rest := []) (lenOf pd0 rfl) rfl (by show 2 * 0 + _ ≤ _; exact Nat.le_of_eq rfl) (hb hby at_47) (fun _ _ => ⟨rfl, e0, (by decide : 0 + 0 ≤ _), (by decide : 0 + 0 ≤ _)⟩)
      dsimp only [Pt.U, Pt.locs, Pt.cells, Pt.slots] at X18 l18 y18 z18 st18 hQ18
      subst l18 y18 z18
      obtain ⟨rfl, Nq18, e18⟩ := hQ18
      have N18 := Fr.app N0 Nq18
      refine Goes.by st18 ?_
      refine Goes.by (fun _ kz => XS.astore X18.here hx rfl (hb hby at_50) rfl rfl (l' := #[.val (.int p1), .val (.int p2), .val (.int (p1 &&& (3 : Int32))), .val (.int ((p2 &&& (2147483647 : Int32)) % (24 : Int32))), .val (.int ((190 : Int32) + ((p2 &&& (2147483647 : Int32)) % (24 : Int32)))), .val (.ref (w 3)), .unset]) rfl (XS.iload X18.here hx rfl (hb hby at_52) rfl (XS.sipush X18.here hx rfl (hb hby at_54) kz))) ?_
      show Goes p e below (T18.setTop (mkF m 57 #[.val (.int p1), .val (.int p2), .val (.int (p1 &&& (3 : Int32))), .val (.int ((p2 &&& (2147483647 : Int32)) % (24 : Int32))), .val (.int ((190 : Int32) + ((p2 &&& (2147483647 : Int32)) % (24 : Int32)))), .val (.ref (w 3)), .unset] [(.int (200 : Int32)), (.int ((190 : Int32) + ((p2 &&& (2147483647 : Int32)) % (24 : Int32))))])) _
      refine Goes.by (fun _ kz => XS.icmpNo X18.here hx rfl (hb hby at_57) rfl (feq hk200).1 (XS.iload X18.here hx rfl (hb hby at_60) rfl (XS.sipush X18.here hx rfl (hb hby at_62) kz))) ?_
      show Goes p e below (T18.setTop (mkF m 65 #[.val (.int p1), .val (.int p2), .val (.int (p1 &&& (3 : Int32))), .val (.int ((p2 &&& (2147483647 : Int32)) % (24 : Int32))), .val (.int ((190 : Int32) + ((p2 &&& (2147483647 : Int32)) % (24 : Int32)))), .val (.ref (w 3)), .unset] [(.int (201 : Int32)), (.int ((190 : Int32) + ((p2 &&& (2147483647 : Int32)) % (24 : Int32))))])) _
      refine Goes.by (fun _ kz => XS.icmpYes X18.here hx rfl (pc0 := 65) (pc' := 76) rfl (hb hby at_65) rfl (feq hk201).2 (by decide) (by decide) (XS.iload X18.here hx rfl (hb hby at_76) rfl (XS.sipush X18.here hx rfl (hb hby at_78) kz))) ?_
      show Goes p e below (T18.setTop (mkF m 81 #[.val (.int p1), .val (.int p2), .val (.int (p1 &&& (3 : Int32))), .val (.int ((p2 &&& (2147483647 : Int32)) % (24 : Int32))), .val (.int ((190 : Int32) + ((p2 &&& (2147483647 : Int32)) % (24 : Int32)))), .val (.ref (w 3)), .unset] [(.int (204 : Int32)), (.int ((190 : Int32) + ((p2 &&& (2147483647 : Int32)) % (24 : Int32))))])) _
      refine Goes.by (fun _ kz => XS.icmpYes X18.here hx rfl (pc0 := 81) (pc' := 92) rfl (hb hby at_81) rfl (feq hk204).2 (by decide) (by decide) (XS.iload X18.here hx rfl (hb hby at_92) rfl (XS.sipush X18.here hx rfl (hb hby at_94) kz))) ?_
      show Goes p e below (T18.setTop (mkF m 97 #[.val (.int p1), .val (.int p2), .val (.int (p1 &&& (3 : Int32))), .val (.int ((p2 &&& (2147483647 : Int32)) % (24 : Int32))), .val (.int ((190 : Int32) + ((p2 &&& (2147483647 : Int32)) % (24 : Int32)))), .val (.ref (w 3)), .unset] [(.int (400 : Int32)), (.int ((190 : Int32) + ((p2 &&& (2147483647 : Int32)) % (24 : Int32))))])) _
      refine Goes.by (fun _ kz => XS.icmpNo X18.here hx rfl (hb hby at_97) rfl (feq hk400).1 (XS.iload X18.here hx rfl (hb hby at_100) rfl (XS.sipush X18.here hx rfl (hb hby at_102) kz))) ?_
      show Goes p e below (T18.setTop (mkF m 105 #[.val (.int p1), .val (.int p2), .val (.int (p1 &&& (3 : Int32))), .val (.int ((p2 &&& (2147483647 : Int32)) % (24 : Int32))), .val (.int ((190 : Int32) + ((p2 &&& (2147483647 : Int32)) % (24 : Int32)))), .val (.ref (w 3)), .unset] [(.int (404 : Int32)), (.int ((190 : Int32) + ((p2 &&& (2147483647 : Int32)) % (24 : Int32))))])) _
      refine Goes.by (fun _ kz => XS.icmpYes X18.here hx rfl (pc0 := 105) (pc' := 116) rfl (hb hby at_105) rfl (feq hk404).2 (by decide) (by decide) (XS.iload X18.here hx rfl (hb hby at_116) rfl (XS.sipush X18.here hx rfl (hb hby at_118) kz))) ?_
      show Goes p e below (T18.setTop (mkF m 121 #[.val (.int p1), .val (.int p2), .val (.int (p1 &&& (3 : Int32))), .val (.int ((p2 &&& (2147483647 : Int32)) % (24 : Int32))), .val (.int ((190 : Int32) + ((p2 &&& (2147483647 : Int32)) % (24 : Int32)))), .val (.ref (w 3)), .unset] [(.int (409 : Int32)), (.int ((190 : Int32) + ((p2 &&& (2147483647 : Int32)) % (24 : Int32))))])) _
      refine Goes.by (fun _ kz => XS.icmpNo X18.here hx rfl (hb hby at_121) rfl (teq hk409).2 kz) ?_
      obtain ⟨T19, X19, e19, st19⟩ := getS2 X18 hx hZ hown (host := "") (Or.inl (hw _ (List.mem_of_getElem? (i := 16) rfl))) Via.refl e18 P.2.2.2.2.2.2.1 (g := (mkF m 124 #[.val (.int p1), .val (.int p2), .val (.int (p1 &&& (3 : Int32))), .val (.int ((p2 &&& (2147483647 : Int32)) % (24 : Int32))), .val (.int ((190 : Int32) + ((p2 &&& (2147483647 : Int32)) % (24 : Int32)))), .val (.ref (w 3)), .unset] [])) rfl (hb hby at_124)
      refine Goes.by st19 ?_
      refine Goes.by (fun _ kz => XS.astore X19.here hx rfl (hb hby at_127) rfl rfl (l' := #[.val (.int p1), .val (.int p2), .val (.int (p1 &&& (3 : Int32))), .val (.int ((p2 &&& (2147483647 : Int32)) % (24 : Int32))), .val (.int ((190 : Int32) + ((p2 &&& (2147483647 : Int32)) % (24 : Int32)))), .val (.ref (w 3)), .val (.ref (w 3))]) rfl (XS.goto X19.here hx rfl (pc0 := 129) (pc' := 153) rfl (hb hby at_129) (by decide) (by decide) (XS.aload X19.here hx rfl (hb hby at_153) rfl rfl kz))) ?_
      show Goes p e below (T19.setTop (mkF m 155 #[.val (.int p1), .val (.int p2), .val (.int (p1 &&& (3 : Int32))), .val (.int ((p2 &&& (2147483647 : Int32)) % (24 : Int32))), .val (.int ((190 : Int32) + ((p2 &&& (2147483647 : Int32)) % (24 : Int32)))), .val (.ref (w 3)), .val (.ref (w 3))] [(.ref (w 3))])) _
      refine Goes.by (fun _ kz => XS.aload X19.here hx rfl (hb hby at_155) rfl rfl (Jvm.RoadKit.acmp (g := (mkF m 157 #[.val (.int p1), .val (.int p2), .val (.int (p1 &&& (3 : Int32))), .val (.int ((p2 &&& (2147483647 : Int32)) % (24 : Int32))), .val (.int ((190 : Int32) + ((p2 &&& (2147483647 : Int32)) % (24 : Int32)))), .val (.ref (w 3)), .val (.ref (w 3))] [(.ref (w 3)), (.ref (w 3))])) X19 hx rfl rfl rfl (pc0 := 157) (pc' := 160) (same := true) rfl (hb hby at_157) rfl (decide_eq_true rfl) (by decide) (by decide) (XS.iconst X19.here hx rfl (hb hby at_160) kz))) ?_
      show Goes p e below (T19.setTop (mkF m 161 #[.val (.int p1), .val (.int p2), .val (.int (p1 &&& (3 : Int32))), .val (.int ((p2 &&& (2147483647 : Int32)) % (24 : Int32))), .val (.int ((190 : Int32) + ((p2 &&& (2147483647 : Int32)) % (24 : Int32)))), .val (.ref (w 3)), .val (.ref (w 3))] [(.int (1 : Int32))])) _
      refine Goes.by (fun _ kz => XS.goto X19.here hx rfl (pc0 := 161) (pc' := 165) rfl (hb hby at_161) (by decide) (by decide) kz) ?_
      show Goes p e below (T19.setTop (mkF m 165 #[.val (.int p1), .val (.int p2), .val (.int (p1 &&& (3 : Int32))), .val (.int ((p2 &&& (2147483647 : Int32)) % (24 : Int32))), .val (.int ((190 : Int32) + ((p2 &&& (2147483647 : Int32)) % (24 : Int32)))), .val (.ref (w 3)), .val (.ref (w 3))] [(.int (1 : Int32))])) _
      obtain ⟨fs, hr, hrun, hended, hW, hsame⟩ := X19.leave (v := some (.int (1 : Int32))) (fun h => by rw [Bd.returns] at h; cases h)
      exact ⟨_, _, retN X19 hx (t := .boolean) Bd.returns (by simp) (hb hby at_165) hr, hrun, hended, _, _, rfl, ⟨rfl, N18⟩, ⟨_, rfl⟩, hW, hsame.mono (by decide) (by decide)⟩
    by_cases hk410 : ((190 : Int32) + ((p2 &&& (2147483647 : Int32)) % (24 : Int32))) = (410 : Int32)
    · show Goes p e below (s₁.setTop (mkF m 45 #[.val (.int p1), .val (.int p2), .val (.int (p1 &&& (3 : Int32))), .val (.int ((p2 &&& (2147483647 : Int32)) % (24 : Int32))), .val (.int ((190 : Int32) + ((p2 &&& (2147483647 : Int32)) % (24 : Int32)))), .unset, .unset] [])) _
      refine Goes.by (fun _ kz => XS.iload X0.here hx rfl (hb hby at_45) rfl kz) ?_
      obtain ⟨_, _, ⟨T21, L21, k21, n21⟩, -, X21, ⟨Lc21, hQ21, l21, y21, z21⟩, st21⟩ := Jvm.LawKit.callS X0 hx (y := (⟨"com/example/run_ledger/runledger/cli/ExitCode", "forAnswer", "(I)Lcom/example/run_ledger/runledger/cli/ExitCode;"⟩ : MethodName)) hown (mvT hZ (hw _ (List.mem_of_getElem? (i := 1) rfl))) (mvT hZ (hw _ (List.mem_of_getElem? (i := 2) rfl))) (mvT hZ (hw _ (List.mem_of_getElem? (i := 3) rfl))) (mvT hZ (hw _ (List.mem_of_getElem? (i := 4) rfl))) (by decide) (backOf (W := 0) (r1_410 l Z a0 hw [] h0 n0 Z0 ((190 : Int32) + ((p2 &&& (2147483647 : Int32)) % (24 : Int32))) w hk410 P) hZ (hw _ (List.mem_of_getElem? (i := 4) rfl)) (hw _ (List.mem_of_getElem? (i := 3) rfl)) (by decide) (by decide)) (g := (mkF m 47 #[.val (.int p1), .val (.int p2), .val (.int (p1 &&& (3 : Int32))), .val (.int ((p2 &&& (2147483647 : Int32)) % (24 : Int32))), .val (.int ((190 : Int32) + ((p2 &&& (2147483647 : Int32)) % (24 : Int32)))), .unset, .unset] [(.int ((190 : Int32) + ((p2 &&& (2147483647 : Int32)) % (24 : Int32))))])) rfl (by rw [hml]; rfl) (argsL := [(.int ((190 : Int32) + ((p2 &&& (2147483647 : Int32)) % (24 : Int32))))]) (rest := []) (lenOf pd0 rfl) rfl (by show 2 * 0 + _ ≤ _; exact Nat.le_of_eq rfl) (hb hby at_47) (fun _ _ => ⟨rfl, e0, (by decide : 0 + 0 ≤ _), (by decide : 0 + 0 ≤ _)⟩)
      dsimp only [Pt.U, Pt.locs, Pt.cells, Pt.slots] at X21 l21 y21 z21 st21 hQ21
      subst l21 y21 z21
      obtain ⟨rfl, Nq21, e21⟩ := hQ21
      have N21 := Fr.app N0 Nq21
      refine Goes.by st21 ?_
      refine Goes.by (fun _ kz => XS.astore X21.here hx rfl (hb hby at_50) rfl rfl (l' := #[.val (.int p1), .val (.int p2), .val (.int (p1 &&& (3 : Int32))), .val (.int ((p2 &&& (2147483647 : Int32)) % (24 : Int32))), .val (.int ((190 : Int32) + ((p2 &&& (2147483647 : Int32)) % (24 : Int32)))), .val (.ref (w 5)), .unset]) rfl (XS.iload X21.here hx rfl (hb hby at_52) rfl (XS.sipush X21.here hx rfl (hb hby at_54) kz))) ?_
      show Goes p e below (T21.setTop (mkF m 57 #[.val (.int p1), .val (.int p2), .val (.int (p1 &&& (3 : Int32))), .val (.int ((p2 &&& (2147483647 : Int32)) % (24 : Int32))), .val (.int ((190 : Int32) + ((p2 &&& (2147483647 : Int32)) % (24 : Int32)))), .val (.ref (w 5)), .unset] [(.int (200 : Int32)), (.int ((190 : Int32) + ((p2 &&& (2147483647 : Int32)) % (24 : Int32))))])) _
      refine Goes.by (fun _ kz => XS.icmpNo X21.here hx rfl (hb hby at_57) rfl (feq hk200).1 (XS.iload X21.here hx rfl (hb hby at_60) rfl (XS.sipush X21.here hx rfl (hb hby at_62) kz))) ?_
      show Goes p e below (T21.setTop (mkF m 65 #[.val (.int p1), .val (.int p2), .val (.int (p1 &&& (3 : Int32))), .val (.int ((p2 &&& (2147483647 : Int32)) % (24 : Int32))), .val (.int ((190 : Int32) + ((p2 &&& (2147483647 : Int32)) % (24 : Int32)))), .val (.ref (w 5)), .unset] [(.int (201 : Int32)), (.int ((190 : Int32) + ((p2 &&& (2147483647 : Int32)) % (24 : Int32))))])) _
      refine Goes.by (fun _ kz => XS.icmpYes X21.here hx rfl (pc0 := 65) (pc' := 76) rfl (hb hby at_65) rfl (feq hk201).2 (by decide) (by decide) (XS.iload X21.here hx rfl (hb hby at_76) rfl (XS.sipush X21.here hx rfl (hb hby at_78) kz))) ?_
      show Goes p e below (T21.setTop (mkF m 81 #[.val (.int p1), .val (.int p2), .val (.int (p1 &&& (3 : Int32))), .val (.int ((p2 &&& (2147483647 : Int32)) % (24 : Int32))), .val (.int ((190 : Int32) + ((p2 &&& (2147483647 : Int32)) % (24 : Int32)))), .val (.ref (w 5)), .unset] [(.int (204 : Int32)), (.int ((190 : Int32) + ((p2 &&& (2147483647 : Int32)) % (24 : Int32))))])) _
      refine Goes.by (fun _ kz => XS.icmpYes X21.here hx rfl (pc0 := 81) (pc' := 92) rfl (hb hby at_81) rfl (feq hk204).2 (by decide) (by decide) (XS.iload X21.here hx rfl (hb hby at_92) rfl (XS.sipush X21.here hx rfl (hb hby at_94) kz))) ?_
      show Goes p e below (T21.setTop (mkF m 97 #[.val (.int p1), .val (.int p2), .val (.int (p1 &&& (3 : Int32))), .val (.int ((p2 &&& (2147483647 : Int32)) % (24 : Int32))), .val (.int ((190 : Int32) + ((p2 &&& (2147483647 : Int32)) % (24 : Int32)))), .val (.ref (w 5)), .unset] [(.int (400 : Int32)), (.int ((190 : Int32) + ((p2 &&& (2147483647 : Int32)) % (24 : Int32))))])) _
      refine Goes.by (fun _ kz => XS.icmpNo X21.here hx rfl (hb hby at_97) rfl (feq hk400).1 (XS.iload X21.here hx rfl (hb hby at_100) rfl (XS.sipush X21.here hx rfl (hb hby at_102) kz))) ?_
      show Goes p e below (T21.setTop (mkF m 105 #[.val (.int p1), .val (.int p2), .val (.int (p1 &&& (3 : Int32))), .val (.int ((p2 &&& (2147483647 : Int32)) % (24 : Int32))), .val (.int ((190 : Int32) + ((p2 &&& (2147483647 : Int32)) % (24 : Int32)))), .val (.ref (w 5)), .unset] [(.int (404 : Int32)), (.int ((190 : Int32) + ((p2 &&& (2147483647 : Int32)) % (24 : Int32))))])) _
      refine Goes.by (fun _ kz => XS.icmpYes X21.here hx rfl (pc0 := 105) (pc' := 116) rfl (hb hby at_105) rfl (feq hk404).2 (by decide) (by decide) (XS.iload X21.here hx rfl (hb hby at_116) rfl (XS.sipush X21.here hx rfl (hb hby at_118) kz))) ?_
      show Goes p e below (T21.setTop (mkF m 121 #[.val (.int p1), .val (.int p2), .val (.int (p1 &&& (3 : Int32))), .val (.int ((p2 &&& (2147483647 : Int32)) % (24 : Int32))), .val (.int ((190 : Int32) + ((p2 &&& (2147483647 : Int32)) % (24 : Int32)))), .val (.ref (w 5)), .unset] [(.int (409 : Int32)), (.int ((190 : Int32) + ((p2 &&& (2147483647 : Int32)) % (24 : Int32))))])) _
      refine Goes.by (fun _ kz => XS.icmpYes X21.here hx rfl (pc0 := 121) (pc' := 132) rfl (hb hby at_121) rfl (feq hk409).2 (by decide) (by decide) (XS.iload X21.here hx rfl (hb hby at_132) rfl (XS.sipush X21.here hx rfl (hb hby at_134) kz))) ?_
      show Goes p e below (T21.setTop (mkF m 137 #[.val (.int p1), .val (.int p2), .val (.int (p1 &&& (3 : Int32))), .val (.int ((p2 &&& (2147483647 : Int32)) % (24 : Int32))), .val (.int ((190 : Int32) + ((p2 &&& (2147483647 : Int32)) % (24 : Int32)))), .val (.ref (w 5)), .unset] [(.int (410 : Int32)), (.int ((190 : Int32) + ((p2 &&& (2147483647 : Int32)) % (24 : Int32))))])) _
      refine Goes.by (fun _ kz => XS.icmpNo X21.here hx rfl (hb hby at_137) rfl (teq hk410).2 kz) ?_
      obtain ⟨T22, X22, e22, st22⟩ := getS2 X21 hx hZ hown (host := "") (Or.inl (hw _ (List.mem_of_getElem? (i := 22) rfl))) Via.refl e21 P.2.2.2.2.2.2.2.2.2.2.1 (g := (mkF m 140 #[.val (.int p1), .val (.int p2), .val (.int (p1 &&& (3 : Int32))), .val (.int ((p2 &&& (2147483647 : Int32)) % (24 : Int32))), .val (.int ((190 : Int32) + ((p2 &&& (2147483647 : Int32)) % (24 : Int32)))), .val (.ref (w 5)), .unset] [])) rfl (hb hby at_140)
      refine Goes.by st22 ?_
      refine Goes.by (fun _ kz => XS.astore X22.here hx rfl (hb hby at_143) rfl rfl (l' := #[.val (.int p1), .val (.int p2), .val (.int (p1 &&& (3 : Int32))), .val (.int ((p2 &&& (2147483647 : Int32)) % (24 : Int32))), .val (.int ((190 : Int32) + ((p2 &&& (2147483647 : Int32)) % (24 : Int32)))), .val (.ref (w 5)), .val (.ref (w 5))]) rfl (XS.goto X22.here hx rfl (pc0 := 145) (pc' := 153) rfl (hb hby at_145) (by decide) (by decide) (XS.aload X22.here hx rfl (hb hby at_153) rfl rfl kz))) ?_
      show Goes p e below (T22.setTop (mkF m 155 #[.val (.int p1), .val (.int p2), .val (.int (p1 &&& (3 : Int32))), .val (.int ((p2 &&& (2147483647 : Int32)) % (24 : Int32))), .val (.int ((190 : Int32) + ((p2 &&& (2147483647 : Int32)) % (24 : Int32)))), .val (.ref (w 5)), .val (.ref (w 5))] [(.ref (w 5))])) _
      refine Goes.by (fun _ kz => XS.aload X22.here hx rfl (hb hby at_155) rfl rfl (Jvm.RoadKit.acmp (g := (mkF m 157 #[.val (.int p1), .val (.int p2), .val (.int (p1 &&& (3 : Int32))), .val (.int ((p2 &&& (2147483647 : Int32)) % (24 : Int32))), .val (.int ((190 : Int32) + ((p2 &&& (2147483647 : Int32)) % (24 : Int32)))), .val (.ref (w 5)), .val (.ref (w 5))] [(.ref (w 5)), (.ref (w 5))])) X22 hx rfl rfl rfl (pc0 := 157) (pc' := 160) (same := true) rfl (hb hby at_157) rfl (decide_eq_true rfl) (by decide) (by decide) (XS.iconst X22.here hx rfl (hb hby at_160) kz))) ?_
      show Goes p e below (T22.setTop (mkF m 161 #[.val (.int p1), .val (.int p2), .val (.int (p1 &&& (3 : Int32))), .val (.int ((p2 &&& (2147483647 : Int32)) % (24 : Int32))), .val (.int ((190 : Int32) + ((p2 &&& (2147483647 : Int32)) % (24 : Int32)))), .val (.ref (w 5)), .val (.ref (w 5))] [(.int (1 : Int32))])) _
      refine Goes.by (fun _ kz => XS.goto X22.here hx rfl (pc0 := 161) (pc' := 165) rfl (hb hby at_161) (by decide) (by decide) kz) ?_
      show Goes p e below (T22.setTop (mkF m 165 #[.val (.int p1), .val (.int p2), .val (.int (p1 &&& (3 : Int32))), .val (.int ((p2 &&& (2147483647 : Int32)) % (24 : Int32))), .val (.int ((190 : Int32) + ((p2 &&& (2147483647 : Int32)) % (24 : Int32)))), .val (.ref (w 5)), .val (.ref (w 5))] [(.int (1 : Int32))])) _
      obtain ⟨fs, hr, hrun, hended, hW, hsame⟩ := X22.leave (v := some (.int (1 : Int32))) (fun h => by rw [Bd.returns] at h; cases h)
      exact ⟨_, _, retN X22 hx (t := .boolean) Bd.returns (by simp) (hb hby at_165) hr, hrun, hended, _, _, rfl, ⟨rfl, N21⟩, ⟨_, rfl⟩, hW, hsame.mono (by decide) (by decide)⟩
    refine Goes.by (fun _ kz => XS.iload X0.here hx rfl (hb hby at_45) rfl kz) ?_
    obtain ⟨_, _, ⟨T25, L25, k25, n25⟩, -, X25, ⟨Lc25, hQ25, l25, y25, z25⟩, st25⟩ := Jvm.LawKit.callS X0 hx (y := (⟨"com/example/run_ledger/runledger/cli/ExitCode", "forAnswer", "(I)Lcom/example/run_ledger/runledger/cli/ExitCode;"⟩ : MethodName)) hown (mvT hZ (hw _ (List.mem_of_getElem? (i := 1) rfl))) (mvT hZ (hw _ (List.mem_of_getElem? (i := 2) rfl))) (mvT hZ (hw _ (List.mem_of_getElem? (i := 3) rfl))) (mvT hZ (hw _ (List.mem_of_getElem? (i := 4) rfl))) (by decide) (backOf (W := 0) (r1_x l Z a0 hw [] h0 n0 Z0 ((190 : Int32) + ((p2 &&& (2147483647 : Int32)) % (24 : Int32))) w hk200 hk201 hk204 hk400 hk404 hk409 hk410 P) hZ (hw _ (List.mem_of_getElem? (i := 4) rfl)) (hw _ (List.mem_of_getElem? (i := 3) rfl)) (by decide) (by decide)) (g := (mkF m 47 #[.val (.int p1), .val (.int p2), .val (.int (p1 &&& (3 : Int32))), .val (.int ((p2 &&& (2147483647 : Int32)) % (24 : Int32))), .val (.int ((190 : Int32) + ((p2 &&& (2147483647 : Int32)) % (24 : Int32)))), .unset, .unset] [(.int ((190 : Int32) + ((p2 &&& (2147483647 : Int32)) % (24 : Int32))))])) rfl (by rw [hml]; rfl) (argsL := [(.int ((190 : Int32) + ((p2 &&& (2147483647 : Int32)) % (24 : Int32))))]) (rest := []) (lenOf pd0 rfl) rfl (by show 2 * 0 + _ ≤ _; exact Nat.le_of_eq rfl) (hb hby at_47) (fun _ _ => ⟨rfl, e0, (by decide : 0 + 0 ≤ _), (by decide : 0 + 0 ≤ _)⟩)
    dsimp only [Pt.U, Pt.locs, Pt.cells, Pt.slots] at X25 l25 y25 z25 st25 hQ25
    subst l25 y25 z25
    obtain ⟨rfl, Nq25, e25⟩ := hQ25
    have N25 := Fr.app N0 Nq25
    refine Goes.by st25 ?_
    refine Goes.by (fun _ kz => XS.astore X25.here hx rfl (hb hby at_50) rfl rfl (l' := #[.val (.int p1), .val (.int p2), .val (.int (p1 &&& (3 : Int32))), .val (.int ((p2 &&& (2147483647 : Int32)) % (24 : Int32))), .val (.int ((190 : Int32) + ((p2 &&& (2147483647 : Int32)) % (24 : Int32)))), .val (.ref (w 0)), .unset]) rfl (XS.iload X25.here hx rfl (hb hby at_52) rfl (XS.sipush X25.here hx rfl (hb hby at_54) kz))) ?_
    show Goes p e below (T25.setTop (mkF m 57 #[.val (.int p1), .val (.int p2), .val (.int (p1 &&& (3 : Int32))), .val (.int ((p2 &&& (2147483647 : Int32)) % (24 : Int32))), .val (.int ((190 : Int32) + ((p2 &&& (2147483647 : Int32)) % (24 : Int32)))), .val (.ref (w 0)), .unset] [(.int (200 : Int32)), (.int ((190 : Int32) + ((p2 &&& (2147483647 : Int32)) % (24 : Int32))))])) _
    refine Goes.by (fun _ kz => XS.icmpNo X25.here hx rfl (hb hby at_57) rfl (feq hk200).1 (XS.iload X25.here hx rfl (hb hby at_60) rfl (XS.sipush X25.here hx rfl (hb hby at_62) kz))) ?_
    show Goes p e below (T25.setTop (mkF m 65 #[.val (.int p1), .val (.int p2), .val (.int (p1 &&& (3 : Int32))), .val (.int ((p2 &&& (2147483647 : Int32)) % (24 : Int32))), .val (.int ((190 : Int32) + ((p2 &&& (2147483647 : Int32)) % (24 : Int32)))), .val (.ref (w 0)), .unset] [(.int (201 : Int32)), (.int ((190 : Int32) + ((p2 &&& (2147483647 : Int32)) % (24 : Int32))))])) _
    refine Goes.by (fun _ kz => XS.icmpYes X25.here hx rfl (pc0 := 65) (pc' := 76) rfl (hb hby at_65) rfl (feq hk201).2 (by decide) (by decide) (XS.iload X25.here hx rfl (hb hby at_76) rfl (XS.sipush X25.here hx rfl (hb hby at_78) kz))) ?_
    show Goes p e below (T25.setTop (mkF m 81 #[.val (.int p1), .val (.int p2), .val (.int (p1 &&& (3 : Int32))), .val (.int ((p2 &&& (2147483647 : Int32)) % (24 : Int32))), .val (.int ((190 : Int32) + ((p2 &&& (2147483647 : Int32)) % (24 : Int32)))), .val (.ref (w 0)), .unset] [(.int (204 : Int32)), (.int ((190 : Int32) + ((p2 &&& (2147483647 : Int32)) % (24 : Int32))))])) _
    refine Goes.by (fun _ kz => XS.icmpYes X25.here hx rfl (pc0 := 81) (pc' := 92) rfl (hb hby at_81) rfl (feq hk204).2 (by decide) (by decide) (XS.iload X25.here hx rfl (hb hby at_92) rfl (XS.sipush X25.here hx rfl (hb hby at_94) kz))) ?_
    show Goes p e below (T25.setTop (mkF m 97 #[.val (.int p1), .val (.int p2), .val (.int (p1 &&& (3 : Int32))), .val (.int ((p2 &&& (2147483647 : Int32)) % (24 : Int32))), .val (.int ((190 : Int32) + ((p2 &&& (2147483647 : Int32)) % (24 : Int32)))), .val (.ref (w 0)), .unset] [(.int (400 : Int32)), (.int ((190 : Int32) + ((p2 &&& (2147483647 : Int32)) % (24 : Int32))))])) _
    refine Goes.by (fun _ kz => XS.icmpNo X25.here hx rfl (hb hby at_97) rfl (feq hk400).1 (XS.iload X25.here hx rfl (hb hby at_100) rfl (XS.sipush X25.here hx rfl (hb hby at_102) kz))) ?_
    show Goes p e below (T25.setTop (mkF m 105 #[.val (.int p1), .val (.int p2), .val (.int (p1 &&& (3 : Int32))), .val (.int ((p2 &&& (2147483647 : Int32)) % (24 : Int32))), .val (.int ((190 : Int32) + ((p2 &&& (2147483647 : Int32)) % (24 : Int32)))), .val (.ref (w 0)), .unset] [(.int (404 : Int32)), (.int ((190 : Int32) + ((p2 &&& (2147483647 : Int32)) % (24 : Int32))))])) _
    refine Goes.by (fun _ kz => XS.icmpYes X25.here hx rfl (pc0 := 105) (pc' := 116) rfl (hb hby at_105) rfl (feq hk404).2 (by decide) (by decide) (XS.iload X25.here hx rfl (hb hby at_116) rfl (XS.sipush X25.here hx rfl (hb hby at_118) kz))) ?_
    show Goes p e below (T25.setTop (mkF m 121 #[.val (.int p1), .val (.int p2), .val (.int (p1 &&& (3 : Int32))), .val (.int ((p2 &&& (2147483647 : Int32)) % (24 : Int32))), .val (.int ((190 : Int32) + ((p2 &&& (2147483647 : Int32)) % (24 : Int32)))), .val (.ref (w 0)), .unset] [(.int (409 : Int32)), (.int ((190 : Int32) + ((p2 &&& (2147483647 : Int32)) % (24 : Int32))))])) _
    refine Goes.by (fun _ kz => XS.icmpYes X25.here hx rfl (pc0 := 121) (pc' := 132) rfl (hb hby at_121) rfl (feq hk409).2 (by decide) (by decide) (XS.iload X25.here hx rfl (hb hby at_132) rfl (XS.sipush X25.here hx rfl (hb hby at_134) kz))) ?_
    show Goes p e below (T25.setTop (mkF m 137 #[.val (.int p1), .val (.int p2), .val (.int (p1 &&& (3 : Int32))), .val (.int ((p2 &&& (2147483647 : Int32)) % (24 : Int32))), .val (.int ((190 : Int32) + ((p2 &&& (2147483647 : Int32)) % (24 : Int32)))), .val (.ref (w 0)), .unset] [(.int (410 : Int32)), (.int ((190 : Int32) + ((p2 &&& (2147483647 : Int32)) % (24 : Int32))))])) _
    refine Goes.by (fun _ kz => XS.icmpYes X25.here hx rfl (pc0 := 137) (pc' := 148) rfl (hb hby at_137) rfl (feq hk410).2 (by decide) (by decide) kz) ?_
    obtain ⟨T26, X26, e26, st26⟩ := getS2 X25 hx hZ hown (host := "") (Or.inl (hw _ (List.mem_of_getElem? (i := 7) rfl))) Via.refl e25 P.1 (g := (mkF m 148 #[.val (.int p1), .val (.int p2), .val (.int (p1 &&& (3 : Int32))), .val (.int ((p2 &&& (2147483647 : Int32)) % (24 : Int32))), .val (.int ((190 : Int32) + ((p2 &&& (2147483647 : Int32)) % (24 : Int32)))), .val (.ref (w 0)), .unset] [])) rfl (hb hby at_148)
    refine Goes.by st26 ?_
    refine Goes.by (fun _ kz => XS.astore X26.here hx rfl (hb hby at_151) rfl rfl (l' := #[.val (.int p1), .val (.int p2), .val (.int (p1 &&& (3 : Int32))), .val (.int ((p2 &&& (2147483647 : Int32)) % (24 : Int32))), .val (.int ((190 : Int32) + ((p2 &&& (2147483647 : Int32)) % (24 : Int32)))), .val (.ref (w 0)), .val (.ref (w 0))]) rfl (XS.aload X26.here hx rfl (hb hby at_153) rfl rfl (XS.aload X26.here hx rfl (hb hby at_155) rfl rfl kz))) ?_
    show Goes p e below (T26.setTop (mkF m 157 #[.val (.int p1), .val (.int p2), .val (.int (p1 &&& (3 : Int32))), .val (.int ((p2 &&& (2147483647 : Int32)) % (24 : Int32))), .val (.int ((190 : Int32) + ((p2 &&& (2147483647 : Int32)) % (24 : Int32)))), .val (.ref (w 0)), .val (.ref (w 0))] [(.ref (w 0)), (.ref (w 0))])) _
    refine Goes.by (fun _ kz => Jvm.RoadKit.acmp (g := (mkF m 157 #[.val (.int p1), .val (.int p2), .val (.int (p1 &&& (3 : Int32))), .val (.int ((p2 &&& (2147483647 : Int32)) % (24 : Int32))), .val (.int ((190 : Int32) + ((p2 &&& (2147483647 : Int32)) % (24 : Int32)))), .val (.ref (w 0)), .val (.ref (w 0))] [(.ref (w 0)), (.ref (w 0))])) X26 hx rfl rfl rfl (pc0 := 157) (pc' := 160) (same := true) rfl (hb hby at_157) rfl (decide_eq_true rfl) (by decide) (by decide) (XS.iconst X26.here hx rfl (hb hby at_160) (XS.goto X26.here hx rfl (pc0 := 161) (pc' := 165) rfl (hb hby at_161) (by decide) (by decide) kz))) ?_
    show Goes p e below (T26.setTop (mkF m 165 #[.val (.int p1), .val (.int p2), .val (.int (p1 &&& (3 : Int32))), .val (.int ((p2 &&& (2147483647 : Int32)) % (24 : Int32))), .val (.int ((190 : Int32) + ((p2 &&& (2147483647 : Int32)) % (24 : Int32)))), .val (.ref (w 0)), .val (.ref (w 0))] [(.int (1 : Int32))])) _
    obtain ⟨fs, hr, hrun, hended, hW, hsame⟩ := X26.leave (v := some (.int (1 : Int32))) (fun h => by rw [Bd.returns] at h; cases h)
    exact ⟨_, _, retN X26 hx (t := .boolean) Bd.returns (by simp) (hb hby at_165) hr, hrun, hended, _, _, rfl, ⟨rfl, N25⟩, ⟨_, rfl⟩, hW, hsame.mono (by decide) (by decide)⟩
  · refine Goes.by (fun _ kz => XS.icmpYes X0.here hx rfl (pc0 := 14) (pc' := 27) rfl (hb hby at_14) rfl (feq hc1).2 (by decide) (by decide) (XS.iloadN X0.here hx rfl (hb hby at_27) rfl (XS.iconst X0.here hx rfl (hb hby at_28) kz))) ?_
    show Goes p e below (s₁.setTop (mkF m 29 #[.val (.int p1), .val (.int p2), .val (.int (p1 &&& (3 : Int32))), .val (.int ((p2 &&& (2147483647 : Int32)) % (24 : Int32))), .unset, .unset, .unset] [(.int (2 : Int32)), (.int (p1 &&& (3 : Int32)))])) _
    by_cases hc27 : (p1 &&& (3 : Int32)) = (2 : Int32)
    · refine Goes.by (fun _ kz => XS.icmpNo X0.here hx rfl (hb hby at_29) rfl (teq hc27).2 (XS.sipush X0.here hx rfl (hb hby at_32) (XS.iloadN X0.here hx rfl (hb hby at_35) rfl kz))) ?_
      show Goes p e below (s₁.setTop (mkF m 36 #[.val (.int p1), .val (.int p2), .val (.int (p1 &&& (3 : Int32))), .val (.int ((p2 &&& (2147483647 : Int32)) % (24 : Int32))), .unset, .unset, .unset] [(.int ((p2 &&& (2147483647 : Int32)) % (24 : Int32))), (.int (390 : Int32))])) _
      refine Goes.by (fun _ kz => XS.iadd X0.here hx rfl (hb hby at_36) rfl (XS.istore X0.here hx rfl (hb hby at_37) rfl (l' := #[.val (.int p1), .val (.int p2), .val (.int (p1 &&& (3 : Int32))), .val (.int ((p2 &&& (2147483647 : Int32)) % (24 : Int32))), .val (.int ((390 : Int32) + ((p2 &&& (2147483647 : Int32)) % (24 : Int32)))), .unset, .unset]) rfl (XS.goto X0.here hx rfl (pc0 := 39) (pc' := 45) rfl (hb hby at_39) (by decide) (by decide) kz))) ?_
      show Goes p e below (s₁.setTop (mkF m 45 #[.val (.int p1), .val (.int p2), .val (.int (p1 &&& (3 : Int32))), .val (.int ((p2 &&& (2147483647 : Int32)) % (24 : Int32))), .val (.int ((390 : Int32) + ((p2 &&& (2147483647 : Int32)) % (24 : Int32)))), .unset, .unset] [])) _
      by_cases hk200 : ((390 : Int32) + ((p2 &&& (2147483647 : Int32)) % (24 : Int32))) = (200 : Int32)
      · show Goes p e below (s₁.setTop (mkF m 45 #[.val (.int p1), .val (.int p2), .val (.int (p1 &&& (3 : Int32))), .val (.int ((p2 &&& (2147483647 : Int32)) % (24 : Int32))), .val (.int ((390 : Int32) + ((p2 &&& (2147483647 : Int32)) % (24 : Int32)))), .unset, .unset] [])) _
        refine Goes.by (fun _ kz => XS.iload X0.here hx rfl (hb hby at_45) rfl kz) ?_
        obtain ⟨_, _, ⟨T28, L28, k28, n28⟩, -, X28, ⟨Lc28, hQ28, l28, y28, z28⟩, st28⟩ := Jvm.LawKit.callS X0 hx (y := (⟨"com/example/run_ledger/runledger/cli/ExitCode", "forAnswer", "(I)Lcom/example/run_ledger/runledger/cli/ExitCode;"⟩ : MethodName)) hown (mvT hZ (hw _ (List.mem_of_getElem? (i := 1) rfl))) (mvT hZ (hw _ (List.mem_of_getElem? (i := 2) rfl))) (mvT hZ (hw _ (List.mem_of_getElem? (i := 3) rfl))) (mvT hZ (hw _ (List.mem_of_getElem? (i := 4) rfl))) (by decide) (backOf (W := 0) (r1_200 l Z a0 hw [] h0 n0 Z0 ((390 : Int32) + ((p2 &&& (2147483647 : Int32)) % (24 : Int32))) w hk200 P) hZ (hw _ (List.mem_of_getElem? (i := 4) rfl)) (hw _ (List.mem_of_getElem? (i := 3) rfl)) (by decide) (by decide)) (g := (mkF m 47 #[.val (.int p1), .val (.int p2), .val (.int (p1 &&& (3 : Int32))), .val (.int ((p2 &&& (2147483647 : Int32)) % (24 : Int32))), .val (.int ((390 : Int32) + ((p2 &&& (2147483647 : Int32)) % (24 : Int32)))), .unset, .unset] [(.int ((390 : Int32) + ((p2 &&& (2147483647 : Int32)) % (24 : Int32))))])) rfl (by rw [hml]; rfl) (argsL := [(.int ((390 : Int32) + ((p2 &&& (2147483647 : Int32)) % (24 : Int32))))]) (rest := []) (lenOf pd0 rfl) rfl (by show 2 * 0 + _ ≤ _; exact Nat.le_of_eq rfl) (hb hby at_47) (fun _ _ => ⟨rfl, e0, (by decide : 0 + 0 ≤ _), (by decide : 0 + 0 ≤ _)⟩)
        dsimp only [Pt.U, Pt.locs, Pt.cells, Pt.slots] at X28 l28 y28 z28 st28 hQ28
        subst l28 y28 z28
        obtain ⟨rfl, Nq28, e28⟩ := hQ28
        have N28 := Fr.app N0 Nq28
        refine Goes.by st28 ?_
        refine Goes.by (fun _ kz => XS.astore X28.here hx rfl (hb hby at_50) rfl rfl (l' := #[.val (.int p1), .val (.int p2), .val (.int (p1 &&& (3 : Int32))), .val (.int ((p2 &&& (2147483647 : Int32)) % (24 : Int32))), .val (.int ((390 : Int32) + ((p2 &&& (2147483647 : Int32)) % (24 : Int32)))), .val (.ref (w 1)), .unset]) rfl (XS.iload X28.here hx rfl (hb hby at_52) rfl (XS.sipush X28.here hx rfl (hb hby at_54) kz))) ?_
        show Goes p e below (T28.setTop (mkF m 57 #[.val (.int p1), .val (.int p2), .val (.int (p1 &&& (3 : Int32))), .val (.int ((p2 &&& (2147483647 : Int32)) % (24 : Int32))), .val (.int ((390 : Int32) + ((p2 &&& (2147483647 : Int32)) % (24 : Int32)))), .val (.ref (w 1)), .unset] [(.int (200 : Int32)), (.int ((390 : Int32) + ((p2 &&& (2147483647 : Int32)) % (24 : Int32))))])) _
        refine Goes.by (fun _ kz => XS.icmpYes X28.here hx rfl (pc0 := 57) (pc' := 68) rfl (hb hby at_57) rfl (teq hk200).1 (by decide) (by decide) kz) ?_
        obtain ⟨T29, X29, e29, st29⟩ := getS2 X28 hx hZ hown (host := "") (Or.inl (hw _ (List.mem_of_getElem? (i := 10) rfl))) Via.refl e28 P.2.2.1 (g := (mkF m 68 #[.val (.int p1), .val (.int p2), .val (.int (p1 &&& (3 : Int32))), .val (.int ((p2 &&& (2147483647 : Int32)) % (24 : Int32))), .val (.int ((390 : Int32) + ((p2 &&& (2147483647 : Int32)) % (24 : Int32)))), .val (.ref (w 1)), .unset] [])) rfl (hb hby at_68)
        refine Goes.by st29 ?_
        refine Goes.by (fun _ kz => XS.astore X29.here hx rfl (hb hby at_71) rfl rfl (l' := #[.val (.int p1), .val (.int p2), .val (.int (p1 &&& (3 : Int32))), .val (.int ((p2 &&& (2147483647 : Int32)) % (24 : Int32))), .val (.int ((390 : Int32) + ((p2 &&& (2147483647 : Int32)) % (24 : Int32)))), .val (.ref (w 1)), .val (.ref (w 1))]) rfl (XS.goto X29.here hx rfl (pc0 := 73) (pc' := 153) rfl (hb hby at_73) (by decide) (by decide) (XS.aload X29.here hx rfl (hb hby at_153) rfl rfl kz))) ?_
        show Goes p e below (T29.setTop (mkF m 155 #[.val (.int p1), .val (.int p2), .val (.int (p1 &&& (3 : Int32))), .val (.int ((p2 &&& (2147483647 : Int32)) % (24 : Int32))), .val (.int ((390 : Int32) + ((p2 &&& (2147483647 : Int32)) % (24 : Int32)))), .val (.ref (w 1)), .val (.ref (w 1))] [(.ref (w 1))])) _
        refine Goes.by (fun _ kz => XS.aload X29.here hx rfl (hb hby at_155) rfl rfl (Jvm.RoadKit.acmp (g := (mkF m 157 #[.val (.int p1), .val (.int p2), .val (.int (p1 &&& (3 : Int32))), .val (.int ((p2 &&& (2147483647 : Int32)) % (24 : Int32))), .val (.int ((390 : Int32) + ((p2 &&& (2147483647 : Int32)) % (24 : Int32)))), .val (.ref (w 1)), .val (.ref (w 1))] [(.ref (w 1)), (.ref (w 1))])) X29 hx rfl rfl rfl (pc0 := 157) (pc' := 160) (same := true) rfl (hb hby at_157) rfl (decide_eq_true rfl) (by decide) (by decide) (XS.iconst X29.here hx rfl (hb hby at_160) kz))) ?_
        show Goes p e below (T29.setTop (mkF m 161 #[.val (.int p1), .val (.int p2), .val (.int (p1 &&& (3 : Int32))), .val (.int ((p2 &&& (2147483647 : Int32)) % (24 : Int32))), .val (.int ((390 : Int32) + ((p2 &&& (2147483647 : Int32)) % (24 : Int32)))), .val (.ref (w 1)), .val (.ref (w 1))] [(.int (1 : Int32))])) _
        refine Goes.by (fun _ kz => XS.goto X29.here hx rfl (pc0 := 161) (pc' := 165) rfl (hb hby at_161) (by decide) (by decide) kz) ?_
        show Goes p e below (T29.setTop (mkF m 165 #[.val (.int p1), .val (.int p2), .val (.int (p1 &&& (3 : Int32))), .val (.int ((p2 &&& (2147483647 : Int32)) % (24 : Int32))), .val (.int ((390 : Int32) + ((p2 &&& (2147483647 : Int32)) % (24 : Int32)))), .val (.ref (w 1)), .val (.ref (w 1))] [(.int (1 : Int32))])) _
        obtain ⟨fs, hr, hrun, hended, hW, hsame⟩ := X29.leave (v := some (.int (1 : Int32))) (fun h => by rw [Bd.returns] at h; cases h)
        exact ⟨_, _, retN X29 hx (t := .boolean) Bd.returns (by simp) (hb hby at_165) hr, hrun, hended, _, _, rfl, ⟨rfl, N28⟩, ⟨_, rfl⟩, hW, hsame.mono (by decide) (by decide)⟩
      by_cases hk201 : ((390 : Int32) + ((p2 &&& (2147483647 : Int32)) % (24 : Int32))) = (201 : Int32)
      · show Goes p e below (s₁.setTop (mkF m 45 #[.val (.int p1), .val (.int p2), .val (.int (p1 &&& (3 : Int32))), .val (.int ((p2 &&& (2147483647 : Int32)) % (24 : Int32))), .val (.int ((390 : Int32) + ((p2 &&& (2147483647 : Int32)) % (24 : Int32)))), .unset, .unset] [])) _
        refine Goes.by (fun _ kz => XS.iload X0.here hx rfl (hb hby at_45) rfl kz) ?_
        obtain ⟨_, _, ⟨T30, L30, k30, n30⟩, -, X30, ⟨Lc30, hQ30, l30, y30, z30⟩, st30⟩ := Jvm.LawKit.callS X0 hx (y := (⟨"com/example/run_ledger/runledger/cli/ExitCode", "forAnswer", "(I)Lcom/example/run_ledger/runledger/cli/ExitCode;"⟩ : MethodName)) hown (mvT hZ (hw _ (List.mem_of_getElem? (i := 1) rfl))) (mvT hZ (hw _ (List.mem_of_getElem? (i := 2) rfl))) (mvT hZ (hw _ (List.mem_of_getElem? (i := 3) rfl))) (mvT hZ (hw _ (List.mem_of_getElem? (i := 4) rfl))) (by decide) (backOf (W := 0) (r1_201 l Z a0 hw [] h0 n0 Z0 ((390 : Int32) + ((p2 &&& (2147483647 : Int32)) % (24 : Int32))) w hk201 P) hZ (hw _ (List.mem_of_getElem? (i := 4) rfl)) (hw _ (List.mem_of_getElem? (i := 3) rfl)) (by decide) (by decide)) (g := (mkF m 47 #[.val (.int p1), .val (.int p2), .val (.int (p1 &&& (3 : Int32))), .val (.int ((p2 &&& (2147483647 : Int32)) % (24 : Int32))), .val (.int ((390 : Int32) + ((p2 &&& (2147483647 : Int32)) % (24 : Int32)))), .unset, .unset] [(.int ((390 : Int32) + ((p2 &&& (2147483647 : Int32)) % (24 : Int32))))])) rfl (by rw [hml]; rfl) (argsL := [(.int ((390 : Int32) + ((p2 &&& (2147483647 : Int32)) % (24 : Int32))))]) (rest := []) (lenOf pd0 rfl) rfl (by show 2 * 0 + _ ≤ _; exact Nat.le_of_eq rfl) (hb hby at_47) (fun _ _ => ⟨rfl, e0, (by decide : 0 + 0 ≤ _), (by decide : 0 + 0 ≤ _)⟩)
        dsimp only [Pt.U, Pt.locs, Pt.cells, Pt.slots] at X30 l30 y30 z30 st30 hQ30
        subst l30 y30 z30
        obtain ⟨rfl, Nq30, e30⟩ := hQ30
        have N30 := Fr.app N0 Nq30
        refine Goes.by st30 ?_
        refine Goes.by (fun _ kz => XS.astore X30.here hx rfl (hb hby at_50) rfl rfl (l' := #[.val (.int p1), .val (.int p2), .val (.int (p1 &&& (3 : Int32))), .val (.int ((p2 &&& (2147483647 : Int32)) % (24 : Int32))), .val (.int ((390 : Int32) + ((p2 &&& (2147483647 : Int32)) % (24 : Int32)))), .val (.ref (w 1)), .unset]) rfl (XS.iload X30.here hx rfl (hb hby at_52) rfl (XS.sipush X30.here hx rfl (hb hby at_54) kz))) ?_
        show Goes p e below (T30.setTop (mkF m 57 #[.val (.int p1), .val (.int p2), .val (.int (p1 &&& (3 : Int32))), .val (.int ((p2 &&& (2147483647 : Int32)) % (24 : Int32))), .val (.int ((390 : Int32) + ((p2 &&& (2147483647 : Int32)) % (24 : Int32)))), .val (.ref (w 1)), .unset] [(.int (200 : Int32)), (.int ((390 : Int32) + ((p2 &&& (2147483647 : Int32)) % (24 : Int32))))])) _
        refine Goes.by (fun _ kz => XS.icmpNo X30.here hx rfl (hb hby at_57) rfl (feq hk200).1 (XS.iload X30.here hx rfl (hb hby at_60) rfl (XS.sipush X30.here hx rfl (hb hby at_62) kz))) ?_
        show Goes p e below (T30.setTop (mkF m 65 #[.val (.int p1), .val (.int p2), .val (.int (p1 &&& (3 : Int32))), .val (.int ((p2 &&& (2147483647 : Int32)) % (24 : Int32))), .val (.int ((390 : Int32) + ((p2 &&& (2147483647 : Int32)) % (24 : Int32)))), .val (.ref (w 1)), .unset] [(.int (201 : Int32)), (.int ((390 : Int32) + ((p2 &&& (2147483647 : Int32)) % (24 : Int32))))])) _
        refine Goes.by (fun _ kz => XS.icmpNo X30.here hx rfl (hb hby at_65) rfl (teq hk201).2 kz) ?_
        obtain ⟨T31, X31, e31, st31⟩ := getS2 X30 hx hZ hown (host := "") (Or.inl (hw _ (List.mem_of_getElem? (i := 10) rfl))) Via.refl e30 P.2.2.1 (g := (mkF m 68 #[.val (.int p1), .val (.int p2), .val (.int (p1 &&& (3 : Int32))), .val (.int ((p2 &&& (2147483647 : Int32)) % (24 : Int32))), .val (.int ((390 : Int32) + ((p2 &&& (2147483647 : Int32)) % (24 : Int32)))), .val (.ref (w 1)), .unset] [])) rfl (hb hby at_68)
        refine Goes.by st31 ?_
        refine Goes.by (fun _ kz => XS.astore X31.here hx rfl (hb hby at_71) rfl rfl (l' := #[.val (.int p1), .val (.int p2), .val (.int (p1 &&& (3 : Int32))), .val (.int ((p2 &&& (2147483647 : Int32)) % (24 : Int32))), .val (.int ((390 : Int32) + ((p2 &&& (2147483647 : Int32)) % (24 : Int32)))), .val (.ref (w 1)), .val (.ref (w 1))]) rfl (XS.goto X31.here hx rfl (pc0 := 73) (pc' := 153) rfl (hb hby at_73) (by decide) (by decide) (XS.aload X31.here hx rfl (hb hby at_153) rfl rfl kz))) ?_
        show Goes p e below (T31.setTop (mkF m 155 #[.val (.int p1), .val (.int p2), .val (.int (p1 &&& (3 : Int32))), .val (.int ((p2 &&& (2147483647 : Int32)) % (24 : Int32))), .val (.int ((390 : Int32) + ((p2 &&& (2147483647 : Int32)) % (24 : Int32)))), .val (.ref (w 1)), .val (.ref (w 1))] [(.ref (w 1))])) _
        refine Goes.by (fun _ kz => XS.aload X31.here hx rfl (hb hby at_155) rfl rfl (Jvm.RoadKit.acmp (g := (mkF m 157 #[.val (.int p1), .val (.int p2), .val (.int (p1 &&& (3 : Int32))), .val (.int ((p2 &&& (2147483647 : Int32)) % (24 : Int32))), .val (.int ((390 : Int32) + ((p2 &&& (2147483647 : Int32)) % (24 : Int32)))), .val (.ref (w 1)), .val (.ref (w 1))] [(.ref (w 1)), (.ref (w 1))])) X31 hx rfl rfl rfl (pc0 := 157) (pc' := 160) (same := true) rfl (hb hby at_157) rfl (decide_eq_true rfl) (by decide) (by decide) (XS.iconst X31.here hx rfl (hb hby at_160) kz))) ?_
        show Goes p e below (T31.setTop (mkF m 161 #[.val (.int p1), .val (.int p2), .val (.int (p1 &&& (3 : Int32))), .val (.int ((p2 &&& (2147483647 : Int32)) % (24 : Int32))), .val (.int ((390 : Int32) + ((p2 &&& (2147483647 : Int32)) % (24 : Int32)))), .val (.ref (w 1)), .val (.ref (w 1))] [(.int (1 : Int32))])) _
        refine Goes.by (fun _ kz => XS.goto X31.here hx rfl (pc0 := 161) (pc' := 165) rfl (hb hby at_161) (by decide) (by decide) kz) ?_
        show Goes p e below (T31.setTop (mkF m 165 #[.val (.int p1), .val (.int p2), .val (.int (p1 &&& (3 : Int32))), .val (.int ((p2 &&& (2147483647 : Int32)) % (24 : Int32))), .val (.int ((390 : Int32) + ((p2 &&& (2147483647 : Int32)) % (24 : Int32)))), .val (.ref (w 1)), .val (.ref (w 1))] [(.int (1 : Int32))])) _
        obtain ⟨fs, hr, hrun, hended, hW, hsame⟩ := X31.leave (v := some (.int (1 : Int32))) (fun h => by rw [Bd.returns] at h; cases h)
        exact ⟨_, _, retN X31 hx (t := .boolean) Bd.returns (by simp) (hb hby at_165) hr, hrun, hended, _, _, rfl, ⟨rfl, N30⟩, ⟨_, rfl⟩, hW, hsame.mono (by decide) (by decide)⟩
      by_cases hk204 : ((390 : Int32) + ((p2 &&& (2147483647 : Int32)) % (24 : Int32))) = (204 : Int32)
      · show Goes p e below (s₁.setTop (mkF m 45 #[.val (.int p1), .val (.int p2), .val (.int (p1 &&& (3 : Int32))), .val (.int ((p2 &&& (2147483647 : Int32)) % (24 : Int32))), .val (.int ((390 : Int32) + ((p2 &&& (2147483647 : Int32)) % (24 : Int32)))), .unset, .unset] [])) _
        refine Goes.by (fun _ kz => XS.iload X0.here hx rfl (hb hby at_45) rfl kz) ?_
        obtain ⟨_, _, ⟨T32, L32, k32, n32⟩, -, X32, ⟨Lc32, hQ32, l32, y32, z32⟩, st32⟩ := Jvm.LawKit.callS X0 hx (y := (⟨"com/example/run_ledger/runledger/cli/ExitCode", "forAnswer", "(I)Lcom/example/run_ledger/runledger/cli/ExitCode;"⟩ : MethodName)) hown (mvT hZ (hw _ (List.mem_of_getElem? (i := 1) rfl))) (mvT hZ (hw _ (List.mem_of_getElem? (i := 2) rfl))) (mvT hZ (hw _ (List.mem_of_getElem? (i := 3) rfl))) (mvT hZ (hw _ (List.mem_of_getElem? (i := 4) rfl))) (by decide) (backOf (W := 0) (r1_204 l Z a0 hw [] h0 n0 Z0 ((390 : Int32) + ((p2 &&& (2147483647 : Int32)) % (24 : Int32))) w hk204 P) hZ (hw _ (List.mem_of_getElem? (i := 4) rfl)) (hw _ (List.mem_of_getElem? (i := 3) rfl)) (by decide) (by decide)) (g := (mkF m 47 #[.val (.int p1), .val (.int p2), .val (.int (p1 &&& (3 : Int32))), .val (.int ((p2 &&& (2147483647 : Int32)) % (24 : Int32))), .val (.int ((390 : Int32) + ((p2 &&& (2147483647 : Int32)) % (24 : Int32)))), .unset, .unset] [(.int ((390 : Int32) + ((p2 &&& (2147483647 : Int32)) % (24 : Int32))))])) rfl (by rw [hml]; rfl) (argsL := [(.int ((390 : Int32) + ((p2 &&& (2147483647 : Int32)) % (24 : Int32))))]) (rest := []) (lenOf pd0 rfl) rfl (by show 2 * 0 + _ ≤ _; exact Nat.le_of_eq rfl) (hb hby at_47) (fun _ _ => ⟨rfl, e0, (by decide : 0 + 0 ≤ _), (by decide : 0 + 0 ≤ _)⟩)
        dsimp only [Pt.U, Pt.locs, Pt.cells, Pt.slots] at X32 l32 y32 z32 st32 hQ32
        subst l32 y32 z32
        obtain ⟨rfl, Nq32, e32⟩ := hQ32
        have N32 := Fr.app N0 Nq32
        refine Goes.by st32 ?_
        refine Goes.by (fun _ kz => XS.astore X32.here hx rfl (hb hby at_50) rfl rfl (l' := #[.val (.int p1), .val (.int p2), .val (.int (p1 &&& (3 : Int32))), .val (.int ((p2 &&& (2147483647 : Int32)) % (24 : Int32))), .val (.int ((390 : Int32) + ((p2 &&& (2147483647 : Int32)) % (24 : Int32)))), .val (.ref (w 4)), .unset]) rfl (XS.iload X32.here hx rfl (hb hby at_52) rfl (XS.sipush X32.here hx rfl (hb hby at_54) kz))) ?_
        show Goes p e below (T32.setTop (mkF m 57 #[.val (.int p1), .val (.int p2), .val (.int (p1 &&& (3 : Int32))), .val (.int ((p2 &&& (2147483647 : Int32)) % (24 : Int32))), .val (.int ((390 : Int32) + ((p2 &&& (2147483647 : Int32)) % (24 : Int32)))), .val (.ref (w 4)), .unset] [(.int (200 : Int32)), (.int ((390 : Int32) + ((p2 &&& (2147483647 : Int32)) % (24 : Int32))))])) _
        refine Goes.by (fun _ kz => XS.icmpNo X32.here hx rfl (hb hby at_57) rfl (feq hk200).1 (XS.iload X32.here hx rfl (hb hby at_60) rfl (XS.sipush X32.here hx rfl (hb hby at_62) kz))) ?_
        show Goes p e below (T32.setTop (mkF m 65 #[.val (.int p1), .val (.int p2), .val (.int (p1 &&& (3 : Int32))), .val (.int ((p2 &&& (2147483647 : Int32)) % (24 : Int32))), .val (.int ((390 : Int32) + ((p2 &&& (2147483647 : Int32)) % (24 : Int32)))), .val (.ref (w 4)), .unset] [(.int (201 : Int32)), (.int ((390 : Int32) + ((p2 &&& (2147483647 : Int32)) % (24 : Int32))))])) _
        refine Goes.by (fun _ kz => XS.icmpYes X32.here hx rfl (pc0 := 65) (pc' := 76) rfl (hb hby at_65) rfl (feq hk201).2 (by decide) (by decide) (XS.iload X32.here hx rfl (hb hby at_76) rfl (XS.sipush X32.here hx rfl (hb hby at_78) kz))) ?_
        show Goes p e below (T32.setTop (mkF m 81 #[.val (.int p1), .val (.int p2), .val (.int (p1 &&& (3 : Int32))), .val (.int ((p2 &&& (2147483647 : Int32)) % (24 : Int32))), .val (.int ((390 : Int32) + ((p2 &&& (2147483647 : Int32)) % (24 : Int32)))), .val (.ref (w 4)), .unset] [(.int (204 : Int32)), (.int ((390 : Int32) + ((p2 &&& (2147483647 : Int32)) % (24 : Int32))))])) _
        refine Goes.by (fun _ kz => XS.icmpNo X32.here hx rfl (hb hby at_81) rfl (teq hk204).2 kz) ?_
        obtain ⟨T33, X33, e33, st33⟩ := getS2 X32 hx hZ hown (host := "") (Or.inl (hw _ (List.mem_of_getElem? (i := 19) rfl))) Via.refl e32 P.2.2.2.2.2.2.2.2.1 (g := (mkF m 84 #[.val (.int p1), .val (.int p2), .val (.int (p1 &&& (3 : Int32))), .val (.int ((p2 &&& (2147483647 : Int32)) % (24 : Int32))), .val (.int ((390 : Int32) + ((p2 &&& (2147483647 : Int32)) % (24 : Int32)))), .val (.ref (w 4)), .unset] [])) rfl (hb hby at_84)
        refine Goes.by st33 ?_
        refine Goes.by (fun _ kz => XS.astore X33.here hx rfl (hb hby at_87) rfl rfl (l' := #[.val (.int p1), .val (.int p2), .val (.int (p1 &&& (3 : Int32))), .val (.int ((p2 &&& (2147483647 : Int32)) % (24 : Int32))), .val (.int ((390 : Int32) + ((p2 &&& (2147483647 : Int32)) % (24 : Int32)))), .val (.ref (w 4)), .val (.ref (w 4))]) rfl (XS.goto X33.here hx rfl (pc0 := 89) (pc' := 153) rfl (hb hby at_89) (by decide) (by decide) (XS.aload X33.here hx rfl (hb hby at_153) rfl rfl kz))) ?_
        show Goes p e below (T33.setTop (mkF m 155 #[.val (.int p1), .val (.int p2), .val (.int (p1 &&& (3 : Int32))), .val (.int ((p2 &&& (2147483647 : Int32)) % (24 : Int32))), .val (.int ((390 : Int32) + ((p2 &&& (2147483647 : Int32)) % (24 : Int32)))), .val (.ref (w 4)), .val (.ref (w 4))] [(.ref (w 4))])) _
        refine Goes.by (fun _ kz => XS.aload X33.here hx rfl (hb hby at_155) rfl rfl (Jvm.RoadKit.acmp (g := (mkF m 157 #[.val (.int p1), .val (.int p2), .val (.int (p1 &&& (3 : Int32))), .val (.int ((p2 &&& (2147483647 : Int32)) % (24 : Int32))), .val (.int ((390 : Int32) + ((p2 &&& (2147483647 : Int32)) % (24 : Int32)))), .val (.ref (w 4)), .val (.ref (w 4))] [(.ref (w 4)), (.ref (w 4))])) X33 hx rfl rfl rfl (pc0 := 157) (pc' := 160) (same := true) rfl (hb hby at_157) rfl (decide_eq_true rfl) (by decide) (by decide) (XS.iconst X33.here hx rfl (hb hby at_160) kz))) ?_
        show Goes p e below (T33.setTop (mkF m 161 #[.val (.int p1), .val (.int p2), .val (.int (p1 &&& (3 : Int32))), .val (.int ((p2 &&& (2147483647 : Int32)) % (24 : Int32))), .val (.int ((390 : Int32) + ((p2 &&& (2147483647 : Int32)) % (24 : Int32)))), .val (.ref (w 4)), .val (.ref (w 4))] [(.int (1 : Int32))])) _
        refine Goes.by (fun _ kz => XS.goto X33.here hx rfl (pc0 := 161) (pc' := 165) rfl (hb hby at_161) (by decide) (by decide) kz) ?_
        show Goes p e below (T33.setTop (mkF m 165 #[.val (.int p1), .val (.int p2), .val (.int (p1 &&& (3 : Int32))), .val (.int ((p2 &&& (2147483647 : Int32)) % (24 : Int32))), .val (.int ((390 : Int32) + ((p2 &&& (2147483647 : Int32)) % (24 : Int32)))), .val (.ref (w 4)), .val (.ref (w 4))] [(.int (1 : Int32))])) _
        obtain ⟨fs, hr, hrun, hended, hW, hsame⟩ := X33.leave (v := some (.int (1 : Int32))) (fun h => by rw [Bd.returns] at h; cases h)
        exact ⟨_, _, retN X33 hx (t := .boolean) Bd.returns (by simp) (hb hby at_165) hr, hrun, hended, _, _, rfl, ⟨rfl, N32⟩, ⟨_, rfl⟩, hW, hsame.mono (by decide) (by decide)⟩
      by_cases hk400 : ((390 : Int32) + ((p2 &&& (2147483647 : Int32)) % (24 : Int32))) = (400 : Int32)
      · show Goes p e below (s₁.setTop (mkF m 45 #[.val (.int p1), .val (.int p2), .val (.int (p1 &&& (3 : Int32))), .val (.int ((p2 &&& (2147483647 : Int32)) % (24 : Int32))), .val (.int ((390 : Int32) + ((p2 &&& (2147483647 : Int32)) % (24 : Int32)))), .unset, .unset] [])) _
        refine Goes.by (fun _ kz => XS.iload X0.here hx rfl (hb hby at_45) rfl kz) ?_
        obtain ⟨_, _, ⟨T34, L34, k34, n34⟩, -, X34, ⟨Lc34, hQ34, l34, y34, z34⟩, st34⟩ := Jvm.LawKit.callS X0 hx (y := (⟨"com/example/run_ledger/runledger/cli/ExitCode", "forAnswer", "(I)Lcom/example/run_ledger/runledger/cli/ExitCode;"⟩ : MethodName)) hown (mvT hZ (hw _ (List.mem_of_getElem? (i := 1) rfl))) (mvT hZ (hw _ (List.mem_of_getElem? (i := 2) rfl))) (mvT hZ (hw _ (List.mem_of_getElem? (i := 3) rfl))) (mvT hZ (hw _ (List.mem_of_getElem? (i := 4) rfl))) (by decide) (backOf (W := 0) (r1_400 l Z a0 hw [] h0 n0 Z0 ((390 : Int32) + ((p2 &&& (2147483647 : Int32)) % (24 : Int32))) w hk400 P) hZ (hw _ (List.mem_of_getElem? (i := 4) rfl)) (hw _ (List.mem_of_getElem? (i := 3) rfl)) (by decide) (by decide)) (g := (mkF m 47 #[.val (.int p1), .val (.int p2), .val (.int (p1 &&& (3 : Int32))), .val (.int ((p2 &&& (2147483647 : Int32)) % (24 : Int32))), .val (.int ((390 : Int32) + ((p2 &&& (2147483647 : Int32)) % (24 : Int32)))), .unset, .unset] [(.int ((390 : Int32) + ((p2 &&& (2147483647 : Int32)) % (24 : Int32))))])) rfl (by rw [hml]; rfl) (argsL := [(.int ((390 : Int32) + ((p2 &&& (2147483647 : Int32)) % (24 : Int32))))]) (rest := []) (lenOf pd0 rfl) rfl (by show 2 * 0 + _ ≤ _; exact Nat.le_of_eq rfl) (hb hby at_47) (fun _ _ => ⟨rfl, e0, (by decide : 0 + 0 ≤ _), (by decide : 0 + 0 ≤ _)⟩)
        dsimp only [Pt.U, Pt.locs, Pt.cells, Pt.slots] at X34 l34 y34 z34 st34 hQ34
        subst l34 y34 z34
        obtain ⟨rfl, Nq34, e34⟩ := hQ34
        have N34 := Fr.app N0 Nq34
        refine Goes.by st34 ?_
        refine Goes.by (fun _ kz => XS.astore X34.here hx rfl (hb hby at_50) rfl rfl (l' := #[.val (.int p1), .val (.int p2), .val (.int (p1 &&& (3 : Int32))), .val (.int ((p2 &&& (2147483647 : Int32)) % (24 : Int32))), .val (.int ((390 : Int32) + ((p2 &&& (2147483647 : Int32)) % (24 : Int32)))), .val (.ref (w 2)), .unset]) rfl (XS.iload X34.here hx rfl (hb hby at_52) rfl (XS.sipush X34.here hx rfl (hb hby at_54) kz))) ?_
        show Goes p e below (T34.setTop (mkF m 57 #[.val (.int p1), .val (.int p2), .val (.int (p1 &&& (3 : Int32))), .val (.int ((p2 &&& (2147483647 : Int32)) % (24 : Int32))), .val (.int ((390 : Int32) + ((p2 &&& (2147483647 : Int32)) % (24 : Int32)))), .val (.ref (w 2)), .unset] [(.int (200 : Int32)), (.int ((390 : Int32) + ((p2 &&& (2147483647 : Int32)) % (24 : Int32))))])) _
        refine Goes.by (fun _ kz => XS.icmpNo X34.here hx rfl (hb hby at_57) rfl (feq hk200).1 (XS.iload X34.here hx rfl (hb hby at_60) rfl (XS.sipush X34.here hx rfl (hb hby at_62) kz))) ?_
        show Goes p e below (T34.setTop (mkF m 65 #[.val (.int p1), .val (.int p2), .val (.int (p1 &&& (3 : Int32))), .val (.int ((p2 &&& (2147483647 : Int32)) % (24 : Int32))), .val (.int ((390 : Int32) + ((p2 &&& (2147483647 : Int32)) % (24 : Int32)))), .val (.ref (w 2)), .unset] [(.int (201 : Int32)), (.int ((390 : Int32) + ((p2 &&& (2147483647 : Int32)) % (24 : Int32))))])) _
        refine Goes.by (fun _ kz => XS.icmpYes X34.here hx rfl (pc0 := 65) (pc' := 76) rfl (hb hby at_65) rfl (feq hk201).2 (by decide) (by decide) (XS.iload X34.here hx rfl (hb hby at_76) rfl (XS.sipush X34.here hx rfl (hb hby at_78) kz))) ?_
        show Goes p e below (T34.setTop (mkF m 81 #[.val (.int p1), .val (.int p2), .val (.int (p1 &&& (3 : Int32))), .val (.int ((p2 &&& (2147483647 : Int32)) % (24 : Int32))), .val (.int ((390 : Int32) + ((p2 &&& (2147483647 : Int32)) % (24 : Int32)))), .val (.ref (w 2)), .unset] [(.int (204 : Int32)), (.int ((390 : Int32) + ((p2 &&& (2147483647 : Int32)) % (24 : Int32))))])) _
        refine Goes.by (fun _ kz => XS.icmpYes X34.here hx rfl (pc0 := 81) (pc' := 92) rfl (hb hby at_81) rfl (feq hk204).2 (by decide) (by decide) (XS.iload X34.here hx rfl (hb hby at_92) rfl (XS.sipush X34.here hx rfl (hb hby at_94) kz))) ?_
        show Goes p e below (T34.setTop (mkF m 97 #[.val (.int p1), .val (.int p2), .val (.int (p1 &&& (3 : Int32))), .val (.int ((p2 &&& (2147483647 : Int32)) % (24 : Int32))), .val (.int ((390 : Int32) + ((p2 &&& (2147483647 : Int32)) % (24 : Int32)))), .val (.ref (w 2)), .unset] [(.int (400 : Int32)), (.int ((390 : Int32) + ((p2 &&& (2147483647 : Int32)) % (24 : Int32))))])) _
        refine Goes.by (fun _ kz => XS.icmpYes X34.here hx rfl (pc0 := 97) (pc' := 108) rfl (hb hby at_97) rfl (teq hk400).1 (by decide) (by decide) kz) ?_
        obtain ⟨T35, X35, e35, st35⟩ := getS2 X34 hx hZ hown (host := "") (Or.inl (hw _ (List.mem_of_getElem? (i := 13) rfl))) Via.refl e34 P.2.2.2.2.1 (g := (mkF m 108 #[.val (.int p1), .val (.int p2), .val (.int (p1 &&& (3 : Int32))), .val (.int ((p2 &&& (2147483647 : Int32)) % (24 : Int32))), .val (.int ((390 : Int32) + ((p2 &&& (2147483647 : Int32)) % (24 : Int32)))), .val (.ref (w 2)), .unset] [])) rfl (hb hby at_108)
        refine Goes.by st35 ?_
        refine Goes.by (fun _ kz => XS.astore X35.here hx rfl (hb hby at_111) rfl rfl (l' := #[.val (.int p1), .val (.int p2), .val (.int (p1 &&& (3 : Int32))), .val (.int ((p2 &&& (2147483647 : Int32)) % (24 : Int32))), .val (.int ((390 : Int32) + ((p2 &&& (2147483647 : Int32)) % (24 : Int32)))), .val (.ref (w 2)), .val (.ref (w 2))]) rfl (XS.goto X35.here hx rfl (pc0 := 113) (pc' := 153) rfl (hb hby at_113) (by decide) (by decide) (XS.aload X35.here hx rfl (hb hby at_153) rfl rfl kz))) ?_
        show Goes p e below (T35.setTop (mkF m 155 #[.val (.int p1), .val (.int p2), .val (.int (p1 &&& (3 : Int32))), .val (.int ((p2 &&& (2147483647 : Int32)) % (24 : Int32))), .val (.int ((390 : Int32) + ((p2 &&& (2147483647 : Int32)) % (24 : Int32)))), .val (.ref (w 2)), .val (.ref (w 2))] [(.ref (w 2))])) _
        refine Goes.by (fun _ kz => XS.aload X35.here hx rfl (hb hby at_155) rfl rfl (Jvm.RoadKit.acmp (g := (mkF m 157 #[.val (.int p1), .val (.int p2), .val (.int (p1 &&& (3 : Int32))), .val (.int ((p2 &&& (2147483647 : Int32)) % (24 : Int32))), .val (.int ((390 : Int32) + ((p2 &&& (2147483647 : Int32)) % (24 : Int32)))), .val (.ref (w 2)), .val (.ref (w 2))] [(.ref (w 2)), (.ref (w 2))])) X35 hx rfl rfl rfl (pc0 := 157) (pc' := 160) (same := true) rfl (hb hby at_157) rfl (decide_eq_true rfl) (by decide) (by decide) (XS.iconst X35.here hx rfl (hb hby at_160) kz))) ?_
        show Goes p e below (T35.setTop (mkF m 161 #[.val (.int p1), .val (.int p2), .val (.int (p1 &&& (3 : Int32))), .val (.int ((p2 &&& (2147483647 : Int32)) % (24 : Int32))), .val (.int ((390 : Int32) + ((p2 &&& (2147483647 : Int32)) % (24 : Int32)))), .val (.ref (w 2)), .val (.ref (w 2))] [(.int (1 : Int32))])) _
        refine Goes.by (fun _ kz => XS.goto X35.here hx rfl (pc0 := 161) (pc' := 165) rfl (hb hby at_161) (by decide) (by decide) kz) ?_
        show Goes p e below (T35.setTop (mkF m 165 #[.val (.int p1), .val (.int p2), .val (.int (p1 &&& (3 : Int32))), .val (.int ((p2 &&& (2147483647 : Int32)) % (24 : Int32))), .val (.int ((390 : Int32) + ((p2 &&& (2147483647 : Int32)) % (24 : Int32)))), .val (.ref (w 2)), .val (.ref (w 2))] [(.int (1 : Int32))])) _
        obtain ⟨fs, hr, hrun, hended, hW, hsame⟩ := X35.leave (v := some (.int (1 : Int32))) (fun h => by rw [Bd.returns] at h; cases h)
        exact ⟨_, _, retN X35 hx (t := .boolean) Bd.returns (by simp) (hb hby at_165) hr, hrun, hended, _, _, rfl, ⟨rfl, N34⟩, ⟨_, rfl⟩, hW, hsame.mono (by decide) (by decide)⟩
      by_cases hk404 : ((390 : Int32) + ((p2 &&& (2147483647 : Int32)) % (24 : Int32))) = (404 : Int32)
      · show Goes p e below (s₁.setTop (mkF m 45 #[.val (.int p1), .val (.int p2), .val (.int (p1 &&& (3 : Int32))), .val (.int ((p2 &&& (2147483647 : Int32)) % (24 : Int32))), .val (.int ((390 : Int32) + ((p2 &&& (2147483647 : Int32)) % (24 : Int32)))), .unset, .unset] [])) _
        refine Goes.by (fun _ kz => XS.iload X0.here hx rfl (hb hby at_45) rfl kz) ?_
        obtain ⟨_, _, ⟨T36, L36, k36, n36⟩, -, X36, ⟨Lc36, hQ36, l36, y36, z36⟩, st36⟩ := Jvm.LawKit.callS X0 hx (y := (⟨"com/example/run_ledger/runledger/cli/ExitCode", "forAnswer", "(I)Lcom/example/run_ledger/runledger/cli/ExitCode;"⟩ : MethodName)) hown (mvT hZ (hw _ (List.mem_of_getElem? (i := 1) rfl))) (mvT hZ (hw _ (List.mem_of_getElem? (i := 2) rfl))) (mvT hZ (hw _ (List.mem_of_getElem? (i := 3) rfl))) (mvT hZ (hw _ (List.mem_of_getElem? (i := 4) rfl))) (by decide) (backOf (W := 0) (r1_404 l Z a0 hw [] h0 n0 Z0 ((390 : Int32) + ((p2 &&& (2147483647 : Int32)) % (24 : Int32))) w hk404 P) hZ (hw _ (List.mem_of_getElem? (i := 4) rfl)) (hw _ (List.mem_of_getElem? (i := 3) rfl)) (by decide) (by decide)) (g := (mkF m 47 #[.val (.int p1), .val (.int p2), .val (.int (p1 &&& (3 : Int32))), .val (.int ((p2 &&& (2147483647 : Int32)) % (24 : Int32))), .val (.int ((390 : Int32) + ((p2 &&& (2147483647 : Int32)) % (24 : Int32)))), .unset, .unset] [(.int ((390 : Int32) + ((p2 &&& (2147483647 : Int32)) % (24 : Int32))))])) rfl (by rw [hml]; rfl) (argsL := [(.int ((390 : Int32) + ((p2 &&& (2147483647 : Int32)) % (24 : Int32))))]) (rest := []) (lenOf pd0 rfl) rfl (by show 2 * 0 + _ ≤ _; exact Nat.le_of_eq rfl) (hb hby at_47) (fun _ _ => ⟨rfl, e0, (by decide : 0 + 0 ≤ _), (by decide : 0 + 0 ≤ _)⟩)
        dsimp only [Pt.U, Pt.locs, Pt.cells, Pt.slots] at X36 l36 y36 z36 st36 hQ36
        subst l36 y36 z36
        obtain ⟨rfl, Nq36, e36⟩ := hQ36
        have N36 := Fr.app N0 Nq36
        refine Goes.by st36 ?_
        refine Goes.by (fun _ kz => XS.astore X36.here hx rfl (hb hby at_50) rfl rfl (l' := #[.val (.int p1), .val (.int p2), .val (.int (p1 &&& (3 : Int32))), .val (.int ((p2 &&& (2147483647 : Int32)) % (24 : Int32))), .val (.int ((390 : Int32) + ((p2 &&& (2147483647 : Int32)) % (24 : Int32)))), .val (.ref (w 2)), .unset]) rfl (XS.iload X36.here hx rfl (hb hby at_52) rfl (XS.sipush X36.here hx rfl (hb hby at_54) kz))) ?_
        show Goes p e below (T36.setTop (mkF m 57 #[.val (.int p1), .val (.int p2), .val (.int (p1 &&& (3 : Int32))), .val (.int ((p2 &&& (2147483647 : Int32)) % (24 : Int32))), .val (.int ((390 : Int32) + ((p2 &&& (2147483647 : Int32)) % (24 : Int32)))), .val (.ref (w 2)), .unset] [(.int (200 : Int32)), (.int ((390 : Int32) + ((p2 &&& (2147483647 : Int32)) % (24 : Int32))))])) _
        refine Goes.by (fun _ kz => XS.icmpNo X36.here hx rfl (hb hby at_57) rfl (feq hk200).1 (XS.iload X36.here hx rfl (hb hby at_60) rfl (XS.sipush X36.here hx rfl (hb hby at_62) kz))) ?_
        show Goes p e below (T36.setTop (mkF m 65 #[.val (.int p1), .val (.int p2), .val (.int (p1 &&& (3 : Int32))), .val (.int ((p2 &&& (2147483647 : Int32)) % (24 : Int32))), .val (.int ((390 : Int32) + ((p2 &&& (2147483647 : Int32)) % (24 : Int32)))), .val (.ref (w 2)), .unset] [(.int (201 : Int32)), (.int ((390 : Int32) + ((p2 &&& (2147483647 : Int32)) % (24 : Int32))))])) _
        refine Goes.by (fun _ kz => XS.icmpYes X36.here hx rfl (pc0 := 65) (pc' := 76) rfl (hb hby at_65) rfl (feq hk201).2 (by decide) (by decide) (XS.iload X36.here hx rfl (hb hby at_76) rfl (XS.sipush X36.here hx rfl (hb hby at_78) kz))) ?_
        show Goes p e below (T36.setTop (mkF m 81 #[.val (.int p1), .val (.int p2), .val (.int (p1 &&& (3 : Int32))), .val (.int ((p2 &&& (2147483647 : Int32)) % (24 : Int32))), .val (.int ((390 : Int32) + ((p2 &&& (2147483647 : Int32)) % (24 : Int32)))), .val (.ref (w 2)), .unset] [(.int (204 : Int32)), (.int ((390 : Int32) + ((p2 &&& (2147483647 : Int32)) % (24 : Int32))))])) _
        refine Goes.by (fun _ kz => XS.icmpYes X36.here hx rfl (pc0 := 81) (pc' := 92) rfl (hb hby at_81) rfl (feq hk204).2 (by decide) (by decide) (XS.iload X36.here hx rfl (hb hby at_92) rfl (XS.sipush X36.here hx rfl (hb hby at_94) kz))) ?_
        show Goes p e below (T36.setTop (mkF m 97 #[.val (.int p1), .val (.int p2), .val (.int (p1 &&& (3 : Int32))), .val (.int ((p2 &&& (2147483647 : Int32)) % (24 : Int32))), .val (.int ((390 : Int32) + ((p2 &&& (2147483647 : Int32)) % (24 : Int32)))), .val (.ref (w 2)), .unset] [(.int (400 : Int32)), (.int ((390 : Int32) + ((p2 &&& (2147483647 : Int32)) % (24 : Int32))))])) _
        refine Goes.by (fun _ kz => XS.icmpNo X36.here hx rfl (hb hby at_97) rfl (feq hk400).1 (XS.iload X36.here hx rfl (hb hby at_100) rfl (XS.sipush X36.here hx rfl (hb hby at_102) kz))) ?_
        show Goes p e below (T36.setTop (mkF m 105 #[.val (.int p1), .val (.int p2), .val (.int (p1 &&& (3 : Int32))), .val (.int ((p2 &&& (2147483647 : Int32)) % (24 : Int32))), .val (.int ((390 : Int32) + ((p2 &&& (2147483647 : Int32)) % (24 : Int32)))), .val (.ref (w 2)), .unset] [(.int (404 : Int32)), (.int ((390 : Int32) + ((p2 &&& (2147483647 : Int32)) % (24 : Int32))))])) _
        refine Goes.by (fun _ kz => XS.icmpNo X36.here hx rfl (hb hby at_105) rfl (teq hk404).2 kz) ?_
        obtain ⟨T37, X37, e37, st37⟩ := getS2 X36 hx hZ hown (host := "") (Or.inl (hw _ (List.mem_of_getElem? (i := 13) rfl))) Via.refl e36 P.2.2.2.2.1 (g := (mkF m 108 #[.val (.int p1), .val (.int p2), .val (.int (p1 &&& (3 : Int32))), .val (.int ((p2 &&& (2147483647 : Int32)) % (24 : Int32))), .val (.int ((390 : Int32) + ((p2 &&& (2147483647 : Int32)) % (24 : Int32)))), .val (.ref (w 2)), .unset] [])) rfl (hb hby at_108)
        refine Goes.by st37 ?_
        refine Goes.by (fun _ kz => XS.astore X37.here hx rfl (hb hby at_111) rfl rfl (l' := #[.val (.int p1), .val (.int p2), .val (.int (p1 &&& (3 : Int32))), .val (.int ((p2 &&& (2147483647 : Int32)) % (24 : Int32))), .val (.int ((390 : Int32) + ((p2 &&& (2147483647 : Int32)) % (24 : Int32)))), .val (.ref (w 2)), .val (.ref (w 2))]) rfl (XS.goto X37.here hx rfl (pc0 := 113) (pc' := 153) rfl (hb hby at_113) (by decide) (by decide) (XS.aload X37.here hx rfl (hb hby at_153) rfl rfl kz))) ?_
        show Goes p e below (T37.setTop (mkF m 155 #[.val (.int p1), .val (.int p2), .val (.int (p1 &&& (3 : Int32))), .val (.int ((p2 &&& (2147483647 : Int32)) % (24 : Int32))), .val (.int ((390 : Int32) + ((p2 &&& (2147483647 : Int32)) % (24 : Int32)))), .val (.ref (w 2)), .val (.ref (w 2))] [(.ref (w 2))])) _
        refine Goes.by (fun _ kz => XS.aload X37.here hx rfl (hb hby at_155) rfl rfl (Jvm.RoadKit.acmp (g := (mkF m 157 #[.val (.int p1), .val (.int p2), .val (.int (p1 &&& (3 : Int32))), .val (.int ((p2 &&& (2147483647 : Int32)) % (24 : Int32))), .val (.int ((390 : Int32) + ((p2 &&& (2147483647 : Int32)) % (24 : Int32)))), .val (.ref (w 2)), .val (.ref (w 2))] [(.ref (w 2)), (.ref (w 2))])) X37 hx rfl rfl rfl (pc0 := 157) (pc' := 160) (same := true) rfl (hb hby at_157) rfl (decide_eq_true rfl) (by decide) (by decide) (XS.iconst X37.here hx rfl (hb hby at_160) kz))) ?_
        show Goes p e below (T37.setTop (mkF m 161 #[.val (.int p1), .val (.int p2), .val (.int (p1 &&& (3 : Int32))), .val (.int ((p2 &&& (2147483647 : Int32)) % (24 : Int32))), .val (.int ((390 : Int32) + ((p2 &&& (2147483647 : Int32)) % (24 : Int32)))), .val (.ref (w 2)), .val (.ref (w 2))] [(.int (1 : Int32))])) _
        refine Goes.by (fun _ kz => XS.goto X37.here hx rfl (pc0 := 161) (pc' := 165) rfl (hb hby at_161) (by decide) (by decide) kz) ?_
        show Goes p e below (T37.setTop (mkF m 165 #[.val (.int p1), .val (.int p2), .val (.int (p1 &&& (3 : Int32))), .val (.int ((p2 &&& (2147483647 : Int32)) % (24 : Int32))), .val (.int ((390 : Int32) + ((p2 &&& (2147483647 : Int32)) % (24 : Int32)))), .val (.ref (w 2)), .val (.ref (w 2))] [(.int (1 : Int32))])) _
        obtain ⟨fs, hr, hrun, hended, hW, hsame⟩ := X37.leave (v := some (.int (1 : Int32))) (fun h => by rw [Bd.returns] at h; cases h)
        exact ⟨_, _, retN X37 hx (t := .boolean) Bd.returns (by simp) (hb hby at_165) hr, hrun, hended, _, _, rfl, ⟨rfl, N36⟩, ⟨_, rfl⟩, hW, hsame.mono (by decide) (by decide)⟩
      by_cases hk409 : ((390 : Int32) + ((p2 &&& (2147483647 : Int32)) % (24 : Int32))) = (409 : Int32)
      · show Goes p e below (s₁.setTop (mkF m 45 #[.val (.int p1), .val (.int p2), .val (.int (p1 &&& (3 : Int32))), .val (.int ((p2 &&& (2147483647 : Int32)) % (24 : Int32))), .val (.int ((390 : Int32) + ((p2 &&& (2147483647 : Int32)) % (24 : Int32)))), .unset, .unset] [])) _
        refine Goes.by (fun _ kz => XS.iload X0.here hx rfl (hb hby at_45) rfl kz) ?_
        obtain ⟨_, _, ⟨T38, L38, k38, n38⟩, -, X38, ⟨Lc38, hQ38, l38, y38, z38⟩, st38⟩ := Jvm.LawKit.callS X0 hx (y := (⟨"com/example/run_ledger/runledger/cli/ExitCode", "forAnswer", "(I)Lcom/example/run_ledger/runledger/cli/ExitCode;"⟩ : MethodName)) hown (mvT hZ (hw _ (List.mem_of_getElem? (i := 1) rfl))) (mvT hZ (hw _ (List.mem_of_getElem? (i := 2) rfl))) (mvT hZ (hw _ (List.mem_of_getElem? (i := 3) rfl))) (mvT hZ (hw _ (List.mem_of_getElem? (i := 4) rfl))) (by decide) (backOf (W := 0) (r1_409 l Z a0 hw [] h0 n0 Z0 ((390 : Int32) + ((p2 &&& (2147483647 : Int32)) % (24 : Int32))) w hk409 P) hZ (hw _ (List.mem_of_getElem? (i := 4) rfl)) (hw _ (List.mem_of_getElem? (i := 3) rfl)) (by decide) (by decide)) (g := (mkF m 47 #[.val (.int p1), .val (.int p2), .val (.int (p1 &&& (3 : Int32))), .val (.int ((p2 &&& (2147483647 : Int32)) % (24 : Int32))), .val (.int ((390 : Int32) + ((p2 &&& (2147483647 : Int32)) % (24 : Int32)))), .unset, .unset] [(.int ((390 : Int32) + ((p2 &&& (2147483647 : Int32)) % (24 : Int32))))])) rfl (by rw [hml]; rfl) (argsL := [(.int ((390 : Int32) + ((p2 &&& (2147483647 : Int32)) % (24 : Int32))))]) (rest := []) (lenOf pd0 rfl) rfl (by show 2 * 0 + _ ≤ _; exact Nat.le_of_eq rfl) (hb hby at_47) (fun _ _ => ⟨rfl, e0, (by decide : 0 + 0 ≤ _), (by decide : 0 + 0 ≤ _)⟩)
        dsimp only [Pt.U, Pt.locs, Pt.cells, Pt.slots] at X38 l38 y38 z38 st38 hQ38
        subst l38 y38 z38
        obtain ⟨rfl, Nq38, e38⟩ := hQ38
        have N38 := Fr.app N0 Nq38
        refine Goes.by st38 ?_
        refine Goes.by (fun _ kz => XS.astore X38.here hx rfl (hb hby at_50) rfl rfl (l' := #[.val (.int p1), .val (.int p2), .val (.int (p1 &&& (3 : Int32))), .val (.int ((p2 &&& (2147483647 : Int32)) % (24 : Int32))), .val (.int ((390 : Int32) + ((p2 &&& (2147483647 : Int32)) % (24 : Int32)))), .val (.ref (w 3)), .unset]) rfl (XS.iload X38.here hx rfl (hb hby at_52) rfl (XS.sipush X38.here hx rfl (hb hby at_54) kz))) ?_
        show Goes p e below (T38.setTop (mkF m 57 #[.val (.int p1), .val (.int p2), .val (.int (p1 &&& (3 : Int32))), .val (.int ((p2 &&& (2147483647 : Int32)) % (24 : Int32))), .val (.int ((390 : Int32) + ((p2 &&& (2147483647 : Int32)) % (24 : Int32)))), .val (.ref (w 3)), .unset] [(.int (200 : Int32)), (.int ((390 : Int32) + ((p2 &&& (2147483647 : Int32)) % (24 : Int32))))])) _
        refine Goes.by (fun _ kz => XS.icmpNo X38.here hx rfl (hb hby at_57) rfl (feq hk200).1 (XS.iload X38.here hx rfl (hb hby at_60) rfl (XS.sipush X38.here hx rfl (hb hby at_62) kz))) ?_
        show Goes p e below (T38.setTop (mkF m 65 #[.val (.int p1), .val (.int p2), .val (.int (p1 &&& (3 : Int32))), .val (.int ((p2 &&& (2147483647 : Int32)) % (24 : Int32))), .val (.int ((390 : Int32) + ((p2 &&& (2147483647 : Int32)) % (24 : Int32)))), .val (.ref (w 3)), .unset] [(.int (201 : Int32)), (.int ((390 : Int32) + ((p2 &&& (2147483647 : Int32)) % (24 : Int32))))])) _
        refine Goes.by (fun _ kz => XS.icmpYes X38.here hx rfl (pc0 := 65) (pc' := 76) rfl (hb hby at_65) rfl (feq hk201).2 (by decide) (by decide) (XS.iload X38.here hx rfl (hb hby at_76) rfl (XS.sipush X38.here hx rfl (hb hby at_78) kz))) ?_
        show Goes p e below (T38.setTop (mkF m 81 #[.val (.int p1), .val (.int p2), .val (.int (p1 &&& (3 : Int32))), .val (.int ((p2 &&& (2147483647 : Int32)) % (24 : Int32))), .val (.int ((390 : Int32) + ((p2 &&& (2147483647 : Int32)) % (24 : Int32)))), .val (.ref (w 3)), .unset] [(.int (204 : Int32)), (.int ((390 : Int32) + ((p2 &&& (2147483647 : Int32)) % (24 : Int32))))])) _
        refine Goes.by (fun _ kz => XS.icmpYes X38.here hx rfl (pc0 := 81) (pc' := 92) rfl (hb hby at_81) rfl (feq hk204).2 (by decide) (by decide) (XS.iload X38.here hx rfl (hb hby at_92) rfl (XS.sipush X38.here hx rfl (hb hby at_94) kz))) ?_
        show Goes p e below (T38.setTop (mkF m 97 #[.val (.int p1), .val (.int p2), .val (.int (p1 &&& (3 : Int32))), .val (.int ((p2 &&& (2147483647 : Int32)) % (24 : Int32))), .val (.int ((390 : Int32) + ((p2 &&& (2147483647 : Int32)) % (24 : Int32)))), .val (.ref (w 3)), .unset] [(.int (400 : Int32)), (.int ((390 : Int32) + ((p2 &&& (2147483647 : Int32)) % (24 : Int32))))])) _
        refine Goes.by (fun _ kz => XS.icmpNo X38.here hx rfl (hb hby at_97) rfl (feq hk400).1 (XS.iload X38.here hx rfl (hb hby at_100) rfl (XS.sipush X38.here hx rfl (hb hby at_102) kz))) ?_
        show Goes p e below (T38.setTop (mkF m 105 #[.val (.int p1), .val (.int p2), .val (.int (p1 &&& (3 : Int32))), .val (.int ((p2 &&& (2147483647 : Int32)) % (24 : Int32))), .val (.int ((390 : Int32) + ((p2 &&& (2147483647 : Int32)) % (24 : Int32)))), .val (.ref (w 3)), .unset] [(.int (404 : Int32)), (.int ((390 : Int32) + ((p2 &&& (2147483647 : Int32)) % (24 : Int32))))])) _
        refine Goes.by (fun _ kz => XS.icmpYes X38.here hx rfl (pc0 := 105) (pc' := 116) rfl (hb hby at_105) rfl (feq hk404).2 (by decide) (by decide) (XS.iload X38.here hx rfl (hb hby at_116) rfl (XS.sipush X38.here hx rfl (hb hby at_118) kz))) ?_
        show Goes p e below (T38.setTop (mkF m 121 #[.val (.int p1), .val (.int p2), .val (.int (p1 &&& (3 : Int32))), .val (.int ((p2 &&& (2147483647 : Int32)) % (24 : Int32))), .val (.int ((390 : Int32) + ((p2 &&& (2147483647 : Int32)) % (24 : Int32)))), .val (.ref (w 3)), .unset] [(.int (409 : Int32)), (.int ((390 : Int32) + ((p2 &&& (2147483647 : Int32)) % (24 : Int32))))])) _
        refine Goes.by (fun _ kz => XS.icmpNo X38.here hx rfl (hb hby at_121) rfl (teq hk409).2 kz) ?_
        obtain ⟨T39, X39, e39, st39⟩ := getS2 X38 hx hZ hown (host := "") (Or.inl (hw _ (List.mem_of_getElem? (i := 16) rfl))) Via.refl e38 P.2.2.2.2.2.2.1 (g := (mkF m 124 #[.val (.int p1), .val (.int p2), .val (.int (p1 &&& (3 : Int32))), .val (.int ((p2 &&& (2147483647 : Int32)) % (24 : Int32))), .val (.int ((390 : Int32) + ((p2 &&& (2147483647 : Int32)) % (24 : Int32)))), .val (.ref (w 3)), .unset] [])) rfl (hb hby at_124)
        refine Goes.by st39 ?_
        refine Goes.by (fun _ kz => XS.astore X39.here hx rfl (hb hby at_127) rfl rfl (l' := #[.val (.int p1), .val (.int p2), .val (.int (p1 &&& (3 : Int32))), .val (.int ((p2 &&& (2147483647 : Int32)) % (24 : Int32))), .val (.int ((390 : Int32) + ((p2 &&& (2147483647 : Int32)) % (24 : Int32)))), .val (.ref (w 3)), .val (.ref (w 3))]) rfl (XS.goto X39.here hx rfl (pc0 := 129) (pc' := 153) rfl (hb hby at_129) (by decide) (by decide) (XS.aload X39.here hx rfl (hb hby at_153) rfl rfl kz))) ?_
        show Goes p e below (T39.setTop (mkF m 155 #[.val (.int p1), .val (.int p2), .val (.int (p1 &&& (3 : Int32))), .val (.int ((p2 &&& (2147483647 : Int32)) % (24 : Int32))), .val (.int ((390 : Int32) + ((p2 &&& (2147483647 : Int32)) % (24 : Int32)))), .val (.ref (w 3)), .val (.ref (w 3))] [(.ref (w 3))])) _
        refine Goes.by (fun _ kz => XS.aload X39.here hx rfl (hb hby at_155) rfl rfl (Jvm.RoadKit.acmp (g := (mkF m 157 #[.val (.int p1), .val (.int p2), .val (.int (p1 &&& (3 : Int32))), .val (.int ((p2 &&& (2147483647 : Int32)) % (24 : Int32))), .val (.int ((390 : Int32) + ((p2 &&& (2147483647 : Int32)) % (24 : Int32)))), .val (.ref (w 3)), .val (.ref (w 3))] [(.ref (w 3)), (.ref (w 3))])) X39 hx rfl rfl rfl (pc0 := 157) (pc' := 160) (same := true) rfl (hb hby at_157) rfl (decide_eq_true rfl) (by decide) (by decide) (XS.iconst X39.here hx rfl (hb hby at_160) kz))) ?_
        show Goes p e below (T39.setTop (mkF m 161 #[.val (.int p1), .val (.int p2), .val (.int (p1 &&& (3 : Int32))), .val (.int ((p2 &&& (2147483647 : Int32)) % (24 : Int32))), .val (.int ((390 : Int32) + ((p2 &&& (2147483647 : Int32)) % (24 : Int32)))), .val (.ref (w 3)), .val (.ref (w 3))] [(.int (1 : Int32))])) _
        refine Goes.by (fun _ kz => XS.goto X39.here hx rfl (pc0 := 161) (pc' := 165) rfl (hb hby at_161) (by decide) (by decide) kz) ?_
        show Goes p e below (T39.setTop (mkF m 165 #[.val (.int p1), .val (.int p2), .val (.int (p1 &&& (3 : Int32))), .val (.int ((p2 &&& (2147483647 : Int32)) % (24 : Int32))), .val (.int ((390 : Int32) + ((p2 &&& (2147483647 : Int32)) % (24 : Int32)))), .val (.ref (w 3)), .val (.ref (w 3))] [(.int (1 : Int32))])) _
        obtain ⟨fs, hr, hrun, hended, hW, hsame⟩ := X39.leave (v := some (.int (1 : Int32))) (fun h => by rw [Bd.returns] at h; cases h)
        exact ⟨_, _, retN X39 hx (t := .boolean) Bd.returns (by simp) (hb hby at_165) hr, hrun, hended, _, _, rfl, ⟨rfl, N38⟩, ⟨_, rfl⟩, hW, hsame.mono (by decide) (by decide)⟩
      by_cases hk410 : ((390 : Int32) + ((p2 &&& (2147483647 : Int32)) % (24 : Int32))) = (410 : Int32)
      · show Goes p e below (s₁.setTop (mkF m 45 #[.val (.int p1), .val (.int p2), .val (.int (p1 &&& (3 : Int32))), .val (.int ((p2 &&& (2147483647 : Int32)) % (24 : Int32))), .val (.int ((390 : Int32) + ((p2 &&& (2147483647 : Int32)) % (24 : Int32)))), .unset, .unset] [])) _
        refine Goes.by (fun _ kz => XS.iload X0.here hx rfl (hb hby at_45) rfl kz) ?_
        obtain ⟨_, _, ⟨T40, L40, k40, n40⟩, -, X40, ⟨Lc40, hQ40, l40, y40, z40⟩, st40⟩ := Jvm.LawKit.callS X0 hx (y := (⟨"com/example/run_ledger/runledger/cli/ExitCode", "forAnswer", "(I)Lcom/example/run_ledger/runledger/cli/ExitCode;"⟩ : MethodName)) hown (mvT hZ (hw _ (List.mem_of_getElem? (i := 1) rfl))) (mvT hZ (hw _ (List.mem_of_getElem? (i := 2) rfl))) (mvT hZ (hw _ (List.mem_of_getElem? (i := 3) rfl))) (mvT hZ (hw _ (List.mem_of_getElem? (i := 4) rfl))) (by decide) (backOf (W := 0) (r1_410 l Z a0 hw [] h0 n0 Z0 ((390 : Int32) + ((p2 &&& (2147483647 : Int32)) % (24 : Int32))) w hk410 P) hZ (hw _ (List.mem_of_getElem? (i := 4) rfl)) (hw _ (List.mem_of_getElem? (i := 3) rfl)) (by decide) (by decide)) (g := (mkF m 47 #[.val (.int p1), .val (.int p2), .val (.int (p1 &&& (3 : Int32))), .val (.int ((p2 &&& (2147483647 : Int32)) % (24 : Int32))), .val (.int ((390 : Int32) + ((p2 &&& (2147483647 : Int32)) % (24 : Int32)))), .unset, .unset] [(.int ((390 : Int32) + ((p2 &&& (2147483647 : Int32)) % (24 : Int32))))])) rfl (by rw [hml]; rfl) (argsL := [(.int ((390 : Int32) + ((p2 &&& (2147483647 : Int32)) % (24 : Int32))))]) (rest := []) (lenOf pd0 rfl) rfl (by show 2 * 0 + _ ≤ _; exact Nat.le_of_eq rfl) (hb hby at_47) (fun _ _ => ⟨rfl, e0, (by decide : 0 + 0 ≤ _), (by decide : 0 + 0 ≤ _)⟩)
        dsimp only [Pt.U, Pt.locs, Pt.cells, Pt.slots] at X40 l40 y40 z40 st40 hQ40
        subst l40 y40 z40
        obtain ⟨rfl, Nq40, e40⟩ := hQ40
        have N40 := Fr.app N0 Nq40
        refine Goes.by st40 ?_
        refine Goes.by (fun _ kz => XS.astore X40.here hx rfl (hb hby at_50) rfl rfl (l' := #[.val (.int p1), .val (.int p2), .val (.int (p1 &&& (3 : Int32))), .val (.int ((p2 &&& (2147483647 : Int32)) % (24 : Int32))), .val (.int ((390 : Int32) + ((p2 &&& (2147483647 : Int32)) % (24 : Int32)))), .val (.ref (w 5)), .unset]) rfl (XS.iload X40.here hx rfl (hb hby at_52) rfl (XS.sipush X40.here hx rfl (hb hby at_54) kz))) ?_
        show Goes p e below (T40.setTop (mkF m 57 #[.val (.int p1), .val (.int p2), .val (.int (p1 &&& (3 : Int32))), .val (.int ((p2 &&& (2147483647 : Int32)) % (24 : Int32))), .val (.int ((390 : Int32) + ((p2 &&& (2147483647 : Int32)) % (24 : Int32)))), .val (.ref (w 5)), .unset] [(.int (200 : Int32)), (.int ((390 : Int32) + ((p2 &&& (2147483647 : Int32)) % (24 : Int32))))])) _
        refine Goes.by (fun _ kz => XS.icmpNo X40.here hx rfl (hb hby at_57) rfl (feq hk200).1 (XS.iload X40.here hx rfl (hb hby at_60) rfl (XS.sipush X40.here hx rfl (hb hby at_62) kz))) ?_
        show Goes p e below (T40.setTop (mkF m 65 #[.val (.int p1), .val (.int p2), .val (.int (p1 &&& (3 : Int32))), .val (.int ((p2 &&& (2147483647 : Int32)) % (24 : Int32))), .val (.int ((390 : Int32) + ((p2 &&& (2147483647 : Int32)) % (24 : Int32)))), .val (.ref (w 5)), .unset] [(.int (201 : Int32)), (.int ((390 : Int32) + ((p2 &&& (2147483647 : Int32)) % (24 : Int32))))])) _
        refine Goes.by (fun _ kz => XS.icmpYes X40.here hx rfl (pc0 := 65) (pc' := 76) rfl (hb hby at_65) rfl (feq hk201).2 (by decide) (by decide) (XS.iload X40.here hx rfl (hb hby at_76) rfl (XS.sipush X40.here hx rfl (hb hby at_78) kz))) ?_
        show Goes p e below (T40.setTop (mkF m 81 #[.val (.int p1), .val (.int p2), .val (.int (p1 &&& (3 : Int32))), .val (.int ((p2 &&& (2147483647 : Int32)) % (24 : Int32))), .val (.int ((390 : Int32) + ((p2 &&& (2147483647 : Int32)) % (24 : Int32)))), .val (.ref (w 5)), .unset] [(.int (204 : Int32)), (.int ((390 : Int32) + ((p2 &&& (2147483647 : Int32)) % (24 : Int32))))])) _
        refine Goes.by (fun _ kz => XS.icmpYes X40.here hx rfl (pc0 := 81) (pc' := 92) rfl (hb hby at_81) rfl (feq hk204).2 (by decide) (by decide) (XS.iload X40.here hx rfl (hb hby at_92) rfl (XS.sipush X40.here hx rfl (hb hby at_94) kz))) ?_
        show Goes p e below (T40.setTop (mkF m 97 #[.val (.int p1), .val (.int p2), .val (.int (p1 &&& (3 : Int32))), .val (.int ((p2 &&& (2147483647 : Int32)) % (24 : Int32))), .val (.int ((390 : Int32) + ((p2 &&& (2147483647 : Int32)) % (24 : Int32)))), .val (.ref (w 5)), .unset] [(.int (400 : Int32)), (.int ((390 : Int32) + ((p2 &&& (2147483647 : Int32)) % (24 : Int32))))])) _
        refine Goes.by (fun _ kz => XS.icmpNo X40.here hx rfl (hb hby at_97) rfl (feq hk400).1 (XS.iload X40.here hx rfl (hb hby at_100) rfl (XS.sipush X40.here hx rfl (hb hby at_102) kz))) ?_
        show Goes p e below (T40.setTop (mkF m 105 #[.val (.int p1), .val (.int p2), .val (.int (p1 &&& (3 : Int32))), .val (.int ((p2 &&& (2147483647 : Int32)) % (24 : Int32))), .val (.int ((390 : Int32) + ((p2 &&& (2147483647 : Int32)) % (24 : Int32)))), .val (.ref (w 5)), .unset] [(.int (404 : Int32)), (.int ((390 : Int32) + ((p2 &&& (2147483647 : Int32)) % (24 : Int32))))])) _
        refine Goes.by (fun _ kz => XS.icmpYes X40.here hx rfl (pc0 := 105) (pc' := 116) rfl (hb hby at_105) rfl (feq hk404).2 (by decide) (by decide) (XS.iload X40.here hx rfl (hb hby at_116) rfl (XS.sipush X40.here hx rfl (hb hby at_118) kz))) ?_
        show Goes p e below (T40.setTop (mkF m 121 #[.val (.int p1), .val (.int p2), .val (.int (p1 &&& (3 : Int32))), .val (.int ((p2 &&& (2147483647 : Int32)) % (24 : Int32))), .val (.int ((390 : Int32) + ((p2 &&& (2147483647 : Int32)) % (24 : Int32)))), .val (.ref (w 5)), .unset] [(.int (409 : Int32)), (.int ((390 : Int32) + ((p2 &&& (2147483647 : Int32)) % (24 : Int32))))])) _
        refine Goes.by (fun _ kz => XS.icmpYes X40.here hx rfl (pc0 := 121) (pc' := 132) rfl (hb hby at_121) rfl (feq hk409).2 (by decide) (by decide) (XS.iload X40.here hx rfl (hb hby at_132) rfl (XS.sipush X40.here hx rfl (hb hby at_134) kz))) ?_
        show Goes p e below (T40.setTop (mkF m 137 #[.val (.int p1), .val (.int p2), .val (.int (p1 &&& (3 : Int32))), .val (.int ((p2 &&& (2147483647 : Int32)) % (24 : Int32))), .val (.int ((390 : Int32) + ((p2 &&& (2147483647 : Int32)) % (24 : Int32)))), .val (.ref (w 5)), .unset] [(.int (410 : Int32)), (.int ((390 : Int32) + ((p2 &&& (2147483647 : Int32)) % (24 : Int32))))])) _
        refine Goes.by (fun _ kz => XS.icmpNo X40.here hx rfl (hb hby at_137) rfl (teq hk410).2 kz) ?_
        obtain ⟨T41, X41, e41, st41⟩ := getS2 X40 hx hZ hown (host := "") (Or.inl (hw _ (List.mem_of_getElem? (i := 22) rfl))) Via.refl e40 P.2.2.2.2.2.2.2.2.2.2.1 (g := (mkF m 140 #[.val (.int p1), .val (.int p2), .val (.int (p1 &&& (3 : Int32))), .val (.int ((p2 &&& (2147483647 : Int32)) % (24 : Int32))), .val (.int ((390 : Int32) + ((p2 &&& (2147483647 : Int32)) % (24 : Int32)))), .val (.ref (w 5)), .unset] [])) rfl (hb hby at_140)
        refine Goes.by st41 ?_
        refine Goes.by (fun _ kz => XS.astore X41.here hx rfl (hb hby at_143) rfl rfl (l' := #[.val (.int p1), .val (.int p2), .val (.int (p1 &&& (3 : Int32))), .val (.int ((p2 &&& (2147483647 : Int32)) % (24 : Int32))), .val (.int ((390 : Int32) + ((p2 &&& (2147483647 : Int32)) % (24 : Int32)))), .val (.ref (w 5)), .val (.ref (w 5))]) rfl (XS.goto X41.here hx rfl (pc0 := 145) (pc' := 153) rfl (hb hby at_145) (by decide) (by decide) (XS.aload X41.here hx rfl (hb hby at_153) rfl rfl kz))) ?_
        show Goes p e below (T41.setTop (mkF m 155 #[.val (.int p1), .val (.int p2), .val (.int (p1 &&& (3 : Int32))), .val (.int ((p2 &&& (2147483647 : Int32)) % (24 : Int32))), .val (.int ((390 : Int32) + ((p2 &&& (2147483647 : Int32)) % (24 : Int32)))), .val (.ref (w 5)), .val (.ref (w 5))] [(.ref (w 5))])) _
        refine Goes.by (fun _ kz => XS.aload X41.here hx rfl (hb hby at_155) rfl rfl (Jvm.RoadKit.acmp (g := (mkF m 157 #[.val (.int p1), .val (.int p2), .val (.int (p1 &&& (3 : Int32))), .val (.int ((p2 &&& (2147483647 : Int32)) % (24 : Int32))), .val (.int ((390 : Int32) + ((p2 &&& (2147483647 : Int32)) % (24 : Int32)))), .val (.ref (w 5)), .val (.ref (w 5))] [(.ref (w 5)), (.ref (w 5))])) X41 hx rfl rfl rfl (pc0 := 157) (pc' := 160) (same := true) rfl (hb hby at_157) rfl (decide_eq_true rfl) (by decide) (by decide) (XS.iconst X41.here hx rfl (hb hby at_160) kz))) ?_
        show Goes p e below (T41.setTop (mkF m 161 #[.val (.int p1), .val (.int p2), .val (.int (p1 &&& (3 : Int32))), .val (.int ((p2 &&& (2147483647 : Int32)) % (24 : Int32))), .val (.int ((390 : Int32) + ((p2 &&& (2147483647 : Int32)) % (24 : Int32)))), .val (.ref (w 5)), .val (.ref (w 5))] [(.int (1 : Int32))])) _
        refine Goes.by (fun _ kz => XS.goto X41.here hx rfl (pc0 := 161) (pc' := 165) rfl (hb hby at_161) (by decide) (by decide) kz) ?_
        show Goes p e below (T41.setTop (mkF m 165 #[.val (.int p1), .val (.int p2), .val (.int (p1 &&& (3 : Int32))), .val (.int ((p2 &&& (2147483647 : Int32)) % (24 : Int32))), .val (.int ((390 : Int32) + ((p2 &&& (2147483647 : Int32)) % (24 : Int32)))), .val (.ref (w 5)), .val (.ref (w 5))] [(.int (1 : Int32))])) _
        obtain ⟨fs, hr, hrun, hended, hW, hsame⟩ := X41.leave (v := some (.int (1 : Int32))) (fun h => by rw [Bd.returns] at h; cases h)
        exact ⟨_, _, retN X41 hx (t := .boolean) Bd.returns (by simp) (hb hby at_165) hr, hrun, hended, _, _, rfl, ⟨rfl, N40⟩, ⟨_, rfl⟩, hW, hsame.mono (by decide) (by decide)⟩
      refine Goes.by (fun _ kz => XS.iload X0.here hx rfl (hb hby at_45) rfl kz) ?_
      obtain ⟨_, _, ⟨T42, L42, k42, n42⟩, -, X42, ⟨Lc42, hQ42, l42, y42, z42⟩, st42⟩ := Jvm.LawKit.callS X0 hx (y := (⟨"com/example/run_ledger/runledger/cli/ExitCode", "forAnswer", "(I)Lcom/example/run_ledger/runledger/cli/ExitCode;"⟩ : MethodName)) hown (mvT hZ (hw _ (List.mem_of_getElem? (i := 1) rfl))) (mvT hZ (hw _ (List.mem_of_getElem? (i := 2) rfl))) (mvT hZ (hw _ (List.mem_of_getElem? (i := 3) rfl))) (mvT hZ (hw _ (List.mem_of_getElem? (i := 4) rfl))) (by decide) (backOf (W := 0) (r1_x l Z a0 hw [] h0 n0 Z0 ((390 : Int32) + ((p2 &&& (2147483647 : Int32)) % (24 : Int32))) w hk200 hk201 hk204 hk400 hk404 hk409 hk410 P) hZ (hw _ (List.mem_of_getElem? (i := 4) rfl)) (hw _ (List.mem_of_getElem? (i := 3) rfl)) (by decide) (by decide)) (g := (mkF m 47 #[.val (.int p1), .val (.int p2), .val (.int (p1 &&& (3 : Int32))), .val (.int ((p2 &&& (2147483647 : Int32)) % (24 : Int32))), .val (.int ((390 : Int32) + ((p2 &&& (2147483647 : Int32)) % (24 : Int32)))), .unset, .unset] [(.int ((390 : Int32) + ((p2 &&& (2147483647 : Int32)) % (24 : Int32))))])) rfl (by rw [hml]; rfl) (argsL := [(.int ((390 : Int32) + ((p2 &&& (2147483647 : Int32)) % (24 : Int32))))]) (rest := []) (lenOf pd0 rfl) rfl (by show 2 * 0 + _ ≤ _; exact Nat.le_of_eq rfl) (hb hby at_47) (fun _ _ => ⟨rfl, e0, (by decide : 0 + 0 ≤ _), (by decide : 0 + 0 ≤ _)⟩)
      dsimp only [Pt.U, Pt.locs, Pt.cells, Pt.slots] at X42 l42 y42 z42 st42 hQ42
      subst l42 y42 z42
      obtain ⟨rfl, Nq42, e42⟩ := hQ42
      have N42 := Fr.app N0 Nq42
      refine Goes.by st42 ?_
      refine Goes.by (fun _ kz => XS.astore X42.here hx rfl (hb hby at_50) rfl rfl (l' := #[.val (.int p1), .val (.int p2), .val (.int (p1 &&& (3 : Int32))), .val (.int ((p2 &&& (2147483647 : Int32)) % (24 : Int32))), .val (.int ((390 : Int32) + ((p2 &&& (2147483647 : Int32)) % (24 : Int32)))), .val (.ref (w 0)), .unset]) rfl (XS.iload X42.here hx rfl (hb hby at_52) rfl (XS.sipush X42.here hx rfl (hb hby at_54) kz))) ?_
      show Goes p e below (T42.setTop (mkF m 57 #[.val (.int p1), .val (.int p2), .val (.int (p1 &&& (3 : Int32))), .val (.int ((p2 &&& (2147483647 : Int32)) % (24 : Int32))), .val (.int ((390 : Int32) + ((p2 &&& (2147483647 : Int32)) % (24 : Int32)))), .val (.ref (w 0)), .unset] [(.int (200 : Int32)), (.int ((390 : Int32) + ((p2 &&& (2147483647 : Int32)) % (24 : Int32))))])) _
      refine Goes.by (fun _ kz => XS.icmpNo X42.here hx rfl (hb hby at_57) rfl (feq hk200).1 (XS.iload X42.here hx rfl (hb hby at_60) rfl (XS.sipush X42.here hx rfl (hb hby at_62) kz))) ?_
      show Goes p e below (T42.setTop (mkF m 65 #[.val (.int p1), .val (.int p2), .val (.int (p1 &&& (3 : Int32))), .val (.int ((p2 &&& (2147483647 : Int32)) % (24 : Int32))), .val (.int ((390 : Int32) + ((p2 &&& (2147483647 : Int32)) % (24 : Int32)))), .val (.ref (w 0)), .unset] [(.int (201 : Int32)), (.int ((390 : Int32) + ((p2 &&& (2147483647 : Int32)) % (24 : Int32))))])) _
      refine Goes.by (fun _ kz => XS.icmpYes X42.here hx rfl (pc0 := 65) (pc' := 76) rfl (hb hby at_65) rfl (feq hk201).2 (by decide) (by decide) (XS.iload X42.here hx rfl (hb hby at_76) rfl (XS.sipush X42.here hx rfl (hb hby at_78) kz))) ?_
      show Goes p e below (T42.setTop (mkF m 81 #[.val (.int p1), .val (.int p2), .val (.int (p1 &&& (3 : Int32))), .val (.int ((p2 &&& (2147483647 : Int32)) % (24 : Int32))), .val (.int ((390 : Int32) + ((p2 &&& (2147483647 : Int32)) % (24 : Int32)))), .val (.ref (w 0)), .unset] [(.int (204 : Int32)), (.int ((390 : Int32) + ((p2 &&& (2147483647 : Int32)) % (24 : Int32))))])) _
      refine Goes.by (fun _ kz => XS.icmpYes X42.here hx rfl (pc0 := 81) (pc' := 92) rfl (hb hby at_81) rfl (feq hk204).2 (by decide) (by decide) (XS.iload X42.here hx rfl (hb hby at_92) rfl (XS.sipush X42.here hx rfl (hb hby at_94) kz))) ?_
      show Goes p e below (T42.setTop (mkF m 97 #[.val (.int p1), .val (.int p2), .val (.int (p1 &&& (3 : Int32))), .val (.int ((p2 &&& (2147483647 : Int32)) % (24 : Int32))), .val (.int ((390 : Int32) + ((p2 &&& (2147483647 : Int32)) % (24 : Int32)))), .val (.ref (w 0)), .unset] [(.int (400 : Int32)), (.int ((390 : Int32) + ((p2 &&& (2147483647 : Int32)) % (24 : Int32))))])) _
      refine Goes.by (fun _ kz => XS.icmpNo X42.here hx rfl (hb hby at_97) rfl (feq hk400).1 (XS.iload X42.here hx rfl (hb hby at_100) rfl (XS.sipush X42.here hx rfl (hb hby at_102) kz))) ?_
      show Goes p e below (T42.setTop (mkF m 105 #[.val (.int p1), .val (.int p2), .val (.int (p1 &&& (3 : Int32))), .val (.int ((p2 &&& (2147483647 : Int32)) % (24 : Int32))), .val (.int ((390 : Int32) + ((p2 &&& (2147483647 : Int32)) % (24 : Int32)))), .val (.ref (w 0)), .unset] [(.int (404 : Int32)), (.int ((390 : Int32) + ((p2 &&& (2147483647 : Int32)) % (24 : Int32))))])) _
      refine Goes.by (fun _ kz => XS.icmpYes X42.here hx rfl (pc0 := 105) (pc' := 116) rfl (hb hby at_105) rfl (feq hk404).2 (by decide) (by decide) (XS.iload X42.here hx rfl (hb hby at_116) rfl (XS.sipush X42.here hx rfl (hb hby at_118) kz))) ?_
      show Goes p e below (T42.setTop (mkF m 121 #[.val (.int p1), .val (.int p2), .val (.int (p1 &&& (3 : Int32))), .val (.int ((p2 &&& (2147483647 : Int32)) % (24 : Int32))), .val (.int ((390 : Int32) + ((p2 &&& (2147483647 : Int32)) % (24 : Int32)))), .val (.ref (w 0)), .unset] [(.int (409 : Int32)), (.int ((390 : Int32) + ((p2 &&& (2147483647 : Int32)) % (24 : Int32))))])) _
      refine Goes.by (fun _ kz => XS.icmpYes X42.here hx rfl (pc0 := 121) (pc' := 132) rfl (hb hby at_121) rfl (feq hk409).2 (by decide) (by decide) (XS.iload X42.here hx rfl (hb hby at_132) rfl (XS.sipush X42.here hx rfl (hb hby at_134) kz))) ?_
      show Goes p e below (T42.setTop (mkF m 137 #[.val (.int p1), .val (.int p2), .val (.int (p1 &&& (3 : Int32))), .val (.int ((p2 &&& (2147483647 : Int32)) % (24 : Int32))), .val (.int ((390 : Int32) + ((p2 &&& (2147483647 : Int32)) % (24 : Int32)))), .val (.ref (w 0)), .unset] [(.int (410 : Int32)), (.int ((390 : Int32) + ((p2 &&& (2147483647 : Int32)) % (24 : Int32))))])) _
      refine Goes.by (fun _ kz => XS.icmpYes X42.here hx rfl (pc0 := 137) (pc' := 148) rfl (hb hby at_137) rfl (feq hk410).2 (by decide) (by decide) kz) ?_
      obtain ⟨T43, X43, e43, st43⟩ := getS2 X42 hx hZ hown (host := "") (Or.inl (hw _ (List.mem_of_getElem? (i := 7) rfl))) Via.refl e42 P.1 (g := (mkF m 148 #[.val (.int p1), .val (.int p2), .val (.int (p1 &&& (3 : Int32))), .val (.int ((p2 &&& (2147483647 : Int32)) % (24 : Int32))), .val (.int ((390 : Int32) + ((p2 &&& (2147483647 : Int32)) % (24 : Int32)))), .val (.ref (w 0)), .unset] [])) rfl (hb hby at_148)
      refine Goes.by st43 ?_
      refine Goes.by (fun _ kz => XS.astore X43.here hx rfl (hb hby at_151) rfl rfl (l' := #[.val (.int p1), .val (.int p2), .val (.int (p1 &&& (3 : Int32))), .val (.int ((p2 &&& (2147483647 : Int32)) % (24 : Int32))), .val (.int ((390 : Int32) + ((p2 &&& (2147483647 : Int32)) % (24 : Int32)))), .val (.ref (w 0)), .val (.ref (w 0))]) rfl (XS.aload X43.here hx rfl (hb hby at_153) rfl rfl (XS.aload X43.here hx rfl (hb hby at_155) rfl rfl kz))) ?_
      show Goes p e below (T43.setTop (mkF m 157 #[.val (.int p1), .val (.int p2), .val (.int (p1 &&& (3 : Int32))), .val (.int ((p2 &&& (2147483647 : Int32)) % (24 : Int32))), .val (.int ((390 : Int32) + ((p2 &&& (2147483647 : Int32)) % (24 : Int32)))), .val (.ref (w 0)), .val (.ref (w 0))] [(.ref (w 0)), (.ref (w 0))])) _
      refine Goes.by (fun _ kz => Jvm.RoadKit.acmp (g := (mkF m 157 #[.val (.int p1), .val (.int p2), .val (.int (p1 &&& (3 : Int32))), .val (.int ((p2 &&& (2147483647 : Int32)) % (24 : Int32))), .val (.int ((390 : Int32) + ((p2 &&& (2147483647 : Int32)) % (24 : Int32)))), .val (.ref (w 0)), .val (.ref (w 0))] [(.ref (w 0)), (.ref (w 0))])) X43 hx rfl rfl rfl (pc0 := 157) (pc' := 160) (same := true) rfl (hb hby at_157) rfl (decide_eq_true rfl) (by decide) (by decide) (XS.iconst X43.here hx rfl (hb hby at_160) (XS.goto X43.here hx rfl (pc0 := 161) (pc' := 165) rfl (hb hby at_161) (by decide) (by decide) kz))) ?_
      show Goes p e below (T43.setTop (mkF m 165 #[.val (.int p1), .val (.int p2), .val (.int (p1 &&& (3 : Int32))), .val (.int ((p2 &&& (2147483647 : Int32)) % (24 : Int32))), .val (.int ((390 : Int32) + ((p2 &&& (2147483647 : Int32)) % (24 : Int32)))), .val (.ref (w 0)), .val (.ref (w 0))] [(.int (1 : Int32))])) _
      obtain ⟨fs, hr, hrun, hended, hW, hsame⟩ := X43.leave (v := some (.int (1 : Int32))) (fun h => by rw [Bd.returns] at h; cases h)
      exact ⟨_, _, retN X43 hx (t := .boolean) Bd.returns (by simp) (hb hby at_165) hr, hrun, hended, _, _, rfl, ⟨rfl, N42⟩, ⟨_, rfl⟩, hW, hsame.mono (by decide) (by decide)⟩
    · refine Goes.by (fun _ kz => XS.icmpYes X0.here hx rfl (pc0 := 29) (pc' := 42) rfl (hb hby at_29) rfl (feq hc27).2 (by decide) (by decide) (XS.iloadN X0.here hx rfl (hb hby at_42) rfl (XS.istore X0.here hx rfl (hb hby at_43) rfl (l' := #[.val (.int p1), .val (.int p2), .val (.int (p1 &&& (3 : Int32))), .val (.int ((p2 &&& (2147483647 : Int32)) % (24 : Int32))), .val (.int p2), .unset, .unset]) rfl kz))) ?_
      show Goes p e below (s₁.setTop (mkF m 45 #[.val (.int p1), .val (.int p2), .val (.int (p1 &&& (3 : Int32))), .val (.int ((p2 &&& (2147483647 : Int32)) % (24 : Int32))), .val (.int p2), .unset, .unset] [])) _
      by_cases hk200 : p2 = (200 : Int32)
      · show Goes p e below (s₁.setTop (mkF m 45 #[.val (.int p1), .val (.int p2), .val (.int (p1 &&& (3 : Int32))), .val (.int ((p2 &&& (2147483647 : Int32)) % (24 : Int32))), .val (.int p2), .unset, .unset] [])) _
        refine Goes.by (fun _ kz => XS.iload X0.here hx rfl (hb hby at_45) rfl kz) ?_
        obtain ⟨_, _, ⟨T44, L44, k44, n44⟩, -, X44, ⟨Lc44, hQ44, l44, y44, z44⟩, st44⟩ := Jvm.LawKit.callS X0 hx (y := (⟨"com/example/run_ledger/runledger/cli/ExitCode", "forAnswer", "(I)Lcom/example/run_ledger/runledger/cli/ExitCode;"⟩ : MethodName)) hown (mvT hZ (hw _ (List.mem_of_getElem? (i := 1) rfl))) (mvT hZ (hw _ (List.mem_of_getElem? (i := 2) rfl))) (mvT hZ (hw _ (List.mem_of_getElem? (i := 3) rfl))) (mvT hZ (hw _ (List.mem_of_getElem? (i := 4) rfl))) (by decide) (backOf (W := 0) (r1_200 l Z a0 hw [] h0 n0 Z0 p2 w hk200 P) hZ (hw _ (List.mem_of_getElem? (i := 4) rfl)) (hw _ (List.mem_of_getElem? (i := 3) rfl)) (by decide) (by decide)) (g := (mkF m 47 #[.val (.int p1), .val (.int p2), .val (.int (p1 &&& (3 : Int32))), .val (.int ((p2 &&& (2147483647 : Int32)) % (24 : Int32))), .val (.int p2), .unset, .unset] [(.int p2)])) rfl (by rw [hml]; rfl) (argsL := [(.int p2)]) (rest := []) (lenOf pd0 rfl) rfl (by show 2 * 0 + _ ≤ _; exact Nat.le_of_eq rfl) (hb hby at_47) (fun _ _ => ⟨rfl, e0, (by decide : 0 + 0 ≤ _), (by decide : 0 + 0 ≤ _)⟩)
        dsimp only [Pt.U, Pt.locs, Pt.cells, Pt.slots] at X44 l44 y44 z44 st44 hQ44
        subst l44 y44 z44
        obtain ⟨rfl, Nq44, e44⟩ := hQ44
        have N44 := Fr.app N0 Nq44
        refine Goes.by st44 ?_
        refine Goes.by (fun _ kz => XS.astore X44.here hx rfl (hb hby at_50) rfl rfl (l' := #[.val (.int p1), .val (.int p2), .val (.int (p1 &&& (3 : Int32))), .val (.int ((p2 &&& (2147483647 : Int32)) % (24 : Int32))), .val (.int p2), .val (.ref (w 1)), .unset]) rfl (XS.iload X44.here hx rfl (hb hby at_52) rfl (XS.sipush X44.here hx rfl (hb hby at_54) kz))) ?_
        show Goes p e below (T44.setTop (mkF m 57 #[.val (.int p1), .val (.int p2), .val (.int (p1 &&& (3 : Int32))), .val (.int ((p2 &&& (2147483647 : Int32)) % (24 : Int32))), .val (.int p2), .val (.ref (w 1)), .unset] [(.int (200 : Int32)), (.int p2)])) _
        refine Goes.by (fun _ kz => XS.icmpYes X44.here hx rfl (pc0 := 57) (pc' := 68) rfl (hb hby at_57) rfl (teq hk200).1 (by decide) (by decide) kz) ?_
        obtain ⟨T45, X45, e45, st45⟩ := getS2 X44 hx hZ hown (host := "") (Or.inl (hw _ (List.mem_of_getElem? (i := 10) rfl))) Via.refl e44 P.2.2.1 (g := (mkF m 68 #[.val (.int p1), .val (.int p2), .val (.int (p1 &&& (3 : Int32))), .val (.int ((p2 &&& (2147483647 : Int32)) % (24 : Int32))), .val (.int p2), .val (.ref (w 1)), .unset] [])) rfl (hb hby at_68)
        refine Goes.by st45 ?_
        refine Goes.by (fun _ kz => XS.astore X45.here hx rfl (hb hby at_71) rfl rfl (l' := #[.val (.int p1), .val (.int p2), .val (.int (p1 &&& (3 : Int32))), .val (.int ((p2 &&& (2147483647 : Int32)) % (24 : Int32))), .val (.int p2), .val (.ref (w 1)), .val (.ref (w 1))]) rfl (XS.goto X45.here hx rfl (pc0 := 73) (pc' := 153) rfl (hb hby at_73) (by decide) (by decide) (XS.aload X45.here hx rfl (hb hby at_153) rfl rfl kz))) ?_
        show Goes p e below (T45.setTop (mkF m 155 #[.val (.int p1), .val (.int p2), .val (.int (p1 &&& (3 : Int32))), .val (.int ((p2 &&& (2147483647 : Int32)) % (24 : Int32))), .val (.int p2), .val (.ref (w 1)), .val (.ref (w 1))] [(.ref (w 1))])) _
        refine Goes.by (fun _ kz => XS.aload X45.here hx rfl (hb hby at_155) rfl rfl (Jvm.RoadKit.acmp (g := (mkF m 157 #[.val (.int p1), .val (.int p2), .val (.int (p1 &&& (3 : Int32))), .val (.int ((p2 &&& (2147483647 : Int32)) % (24 : Int32))), .val (.int p2), .val (.ref (w 1)), .val (.ref (w 1))] [(.ref (w 1)), (.ref (w 1))])) X45 hx rfl rfl rfl (pc0 := 157) (pc' := 160) (same := true) rfl (hb hby at_157) rfl (decide_eq_true rfl) (by decide) (by decide) (XS.iconst X45.here hx rfl (hb hby at_160) kz))) ?_
        show Goes p e below (T45.setTop (mkF m 161 #[.val (.int p1), .val (.int p2), .val (.int (p1 &&& (3 : Int32))), .val (.int ((p2 &&& (2147483647 : Int32)) % (24 : Int32))), .val (.int p2), .val (.ref (w 1)), .val (.ref (w 1))] [(.int (1 : Int32))])) _
        refine Goes.by (fun _ kz => XS.goto X45.here hx rfl (pc0 := 161) (pc' := 165) rfl (hb hby at_161) (by decide) (by decide) kz) ?_
        show Goes p e below (T45.setTop (mkF m 165 #[.val (.int p1), .val (.int p2), .val (.int (p1 &&& (3 : Int32))), .val (.int ((p2 &&& (2147483647 : Int32)) % (24 : Int32))), .val (.int p2), .val (.ref (w 1)), .val (.ref (w 1))] [(.int (1 : Int32))])) _
        obtain ⟨fs, hr, hrun, hended, hW, hsame⟩ := X45.leave (v := some (.int (1 : Int32))) (fun h => by rw [Bd.returns] at h; cases h)
        exact ⟨_, _, retN X45 hx (t := .boolean) Bd.returns (by simp) (hb hby at_165) hr, hrun, hended, _, _, rfl, ⟨rfl, N44⟩, ⟨_, rfl⟩, hW, hsame.mono (by decide) (by decide)⟩
      by_cases hk201 : p2 = (201 : Int32)
      · show Goes p e below (s₁.setTop (mkF m 45 #[.val (.int p1), .val (.int p2), .val (.int (p1 &&& (3 : Int32))), .val (.int ((p2 &&& (2147483647 : Int32)) % (24 : Int32))), .val (.int p2), .unset, .unset] [])) _
        refine Goes.by (fun _ kz => XS.iload X0.here hx rfl (hb hby at_45) rfl kz) ?_
        obtain ⟨_, _, ⟨T46, L46, k46, n46⟩, -, X46, ⟨Lc46, hQ46, l46, y46, z46⟩, st46⟩ := Jvm.LawKit.callS X0 hx (y := (⟨"com/example/run_ledger/runledger/cli/ExitCode", "forAnswer", "(I)Lcom/example/run_ledger/runledger/cli/ExitCode;"⟩ : MethodName)) hown (mvT hZ (hw _ (List.mem_of_getElem? (i := 1) rfl))) (mvT hZ (hw _ (List.mem_of_getElem? (i := 2) rfl))) (mvT hZ (hw _ (List.mem_of_getElem? (i := 3) rfl))) (mvT hZ (hw _ (List.mem_of_getElem? (i := 4) rfl))) (by decide) (backOf (W := 0) (r1_201 l Z a0 hw [] h0 n0 Z0 p2 w hk201 P) hZ (hw _ (List.mem_of_getElem? (i := 4) rfl)) (hw _ (List.mem_of_getElem? (i := 3) rfl)) (by decide) (by decide)) (g := (mkF m 47 #[.val (.int p1), .val (.int p2), .val (.int (p1 &&& (3 : Int32))), .val (.int ((p2 &&& (2147483647 : Int32)) % (24 : Int32))), .val (.int p2), .unset, .unset] [(.int p2)])) rfl (by rw [hml]; rfl) (argsL := [(.int p2)]) (rest := []) (lenOf pd0 rfl) rfl (by show 2 * 0 + _ ≤ _; exact Nat.le_of_eq rfl) (hb hby at_47) (fun _ _ => ⟨rfl, e0, (by decide : 0 + 0 ≤ _), (by decide : 0 + 0 ≤ _)⟩)
        dsimp only [Pt.U, Pt.locs, Pt.cells, Pt.slots] at X46 l46 y46 z46 st46 hQ46
        subst l46 y46 z46
        obtain ⟨rfl, Nq46, e46⟩ := hQ46
        have N46 := Fr.app N0 Nq46
        refine Goes.by st46 ?_
        refine Goes.by (fun _ kz => XS.astore X46.here hx rfl (hb hby at_50) rfl rfl (l' := #[.val (.int p1), .val (.int p2), .val (.int (p1 &&& (3 : Int32))), .val (.int ((p2 &&& (2147483647 : Int32)) % (24 : Int32))), .val (.int p2), .val (.ref (w 1)), .unset]) rfl (XS.iload X46.here hx rfl (hb hby at_52) rfl (XS.sipush X46.here hx rfl (hb hby at_54) kz))) ?_
        show Goes p e below (T46.setTop (mkF m 57 #[.val (.int p1), .val (.int p2), .val (.int (p1 &&& (3 : Int32))), .val (.int ((p2 &&& (2147483647 : Int32)) % (24 : Int32))), .val (.int p2), .val (.ref (w 1)), .unset] [(.int (200 : Int32)), (.int p2)])) _
        refine Goes.by (fun _ kz => XS.icmpNo X46.here hx rfl (hb hby at_57) rfl (feq hk200).1 (XS.iload X46.here hx rfl (hb hby at_60) rfl (XS.sipush X46.here hx rfl (hb hby at_62) kz))) ?_
        show Goes p e below (T46.setTop (mkF m 65 #[.val (.int p1), .val (.int p2), .val (.int (p1 &&& (3 : Int32))), .val (.int ((p2 &&& (2147483647 : Int32)) % (24 : Int32))), .val (.int p2), .val (.ref (w 1)), .unset] [(.int (201 : Int32)), (.int p2)])) _
        refine Goes.by (fun _ kz => XS.icmpNo X46.here hx rfl (hb hby at_65) rfl (teq hk201).2 kz) ?_
        obtain ⟨T47, X47, e47, st47⟩ := getS2 X46 hx hZ hown (host := "") (Or.inl (hw _ (List.mem_of_getElem? (i := 10) rfl))) Via.refl e46 P.2.2.1 (g := (mkF m 68 #[.val (.int p1), .val (.int p2), .val (.int (p1 &&& (3 : Int32))), .val (.int ((p2 &&& (2147483647 : Int32)) % (24 : Int32))), .val (.int p2), .val (.ref (w 1)), .unset] [])) rfl (hb hby at_68)
        refine Goes.by st47 ?_
        refine Goes.by (fun _ kz => XS.astore X47.here hx rfl (hb hby at_71) rfl rfl (l' := #[.val (.int p1), .val (.int p2), .val (.int (p1 &&& (3 : Int32))), .val (.int ((p2 &&& (2147483647 : Int32)) % (24 : Int32))), .val (.int p2), .val (.ref (w 1)), .val (.ref (w 1))]) rfl (XS.goto X47.here hx rfl (pc0 := 73) (pc' := 153) rfl (hb hby at_73) (by decide) (by decide) (XS.aload X47.here hx rfl (hb hby at_153) rfl rfl kz))) ?_
        show Goes p e below (T47.setTop (mkF m 155 #[.val (.int p1), .val (.int p2), .val (.int (p1 &&& (3 : Int32))), .val (.int ((p2 &&& (2147483647 : Int32)) % (24 : Int32))), .val (.int p2), .val (.ref (w 1)), .val (.ref (w 1))] [(.ref (w 1))])) _
        refine Goes.by (fun _ kz => XS.aload X47.here hx rfl (hb hby at_155) rfl rfl (Jvm.RoadKit.acmp (g := (mkF m 157 #[.val (.int p1), .val (.int p2), .val (.int (p1 &&& (3 : Int32))), .val (.int ((p2 &&& (2147483647 : Int32)) % (24 : Int32))), .val (.int p2), .val (.ref (w 1)), .val (.ref (w 1))] [(.ref (w 1)), (.ref (w 1))])) X47 hx rfl rfl rfl (pc0 := 157) (pc' := 160) (same := true) rfl (hb hby at_157) rfl (decide_eq_true rfl) (by decide) (by decide) (XS.iconst X47.here hx rfl (hb hby at_160) kz))) ?_
        show Goes p e below (T47.setTop (mkF m 161 #[.val (.int p1), .val (.int p2), .val (.int (p1 &&& (3 : Int32))), .val (.int ((p2 &&& (2147483647 : Int32)) % (24 : Int32))), .val (.int p2), .val (.ref (w 1)), .val (.ref (w 1))] [(.int (1 : Int32))])) _
        refine Goes.by (fun _ kz => XS.goto X47.here hx rfl (pc0 := 161) (pc' := 165) rfl (hb hby at_161) (by decide) (by decide) kz) ?_
        show Goes p e below (T47.setTop (mkF m 165 #[.val (.int p1), .val (.int p2), .val (.int (p1 &&& (3 : Int32))), .val (.int ((p2 &&& (2147483647 : Int32)) % (24 : Int32))), .val (.int p2), .val (.ref (w 1)), .val (.ref (w 1))] [(.int (1 : Int32))])) _
        obtain ⟨fs, hr, hrun, hended, hW, hsame⟩ := X47.leave (v := some (.int (1 : Int32))) (fun h => by rw [Bd.returns] at h; cases h)
        exact ⟨_, _, retN X47 hx (t := .boolean) Bd.returns (by simp) (hb hby at_165) hr, hrun, hended, _, _, rfl, ⟨rfl, N46⟩, ⟨_, rfl⟩, hW, hsame.mono (by decide) (by decide)⟩
      by_cases hk204 : p2 = (204 : Int32)
      · show Goes p e below (s₁.setTop (mkF m 45 #[.val (.int p1), .val (.int p2), .val (.int (p1 &&& (3 : Int32))), .val (.int ((p2 &&& (2147483647 : Int32)) % (24 : Int32))), .val (.int p2), .unset, .unset] [])) _
        refine Goes.by (fun _ kz => XS.iload X0.here hx rfl (hb hby at_45) rfl kz) ?_
        obtain ⟨_, _, ⟨T48, L48, k48, n48⟩, -, X48, ⟨Lc48, hQ48, l48, y48, z48⟩, st48⟩ := Jvm.LawKit.callS X0 hx (y := (⟨"com/example/run_ledger/runledger/cli/ExitCode", "forAnswer", "(I)Lcom/example/run_ledger/runledger/cli/ExitCode;"⟩ : MethodName)) hown (mvT hZ (hw _ (List.mem_of_getElem? (i := 1) rfl))) (mvT hZ (hw _ (List.mem_of_getElem? (i := 2) rfl))) (mvT hZ (hw _ (List.mem_of_getElem? (i := 3) rfl))) (mvT hZ (hw _ (List.mem_of_getElem? (i := 4) rfl))) (by decide) (backOf (W := 0) (r1_204 l Z a0 hw [] h0 n0 Z0 p2 w hk204 P) hZ (hw _ (List.mem_of_getElem? (i := 4) rfl)) (hw _ (List.mem_of_getElem? (i := 3) rfl)) (by decide) (by decide)) (g := (mkF m 47 #[.val (.int p1), .val (.int p2), .val (.int (p1 &&& (3 : Int32))), .val (.int ((p2 &&& (2147483647 : Int32)) % (24 : Int32))), .val (.int p2), .unset, .unset] [(.int p2)])) rfl (by rw [hml]; rfl) (argsL := [(.int p2)]) (rest := []) (lenOf pd0 rfl) rfl (by show 2 * 0 + _ ≤ _; exact Nat.le_of_eq rfl) (hb hby at_47) (fun _ _ => ⟨rfl, e0, (by decide : 0 + 0 ≤ _), (by decide : 0 + 0 ≤ _)⟩)
        dsimp only [Pt.U, Pt.locs, Pt.cells, Pt.slots] at X48 l48 y48 z48 st48 hQ48
        subst l48 y48 z48
        obtain ⟨rfl, Nq48, e48⟩ := hQ48
        have N48 := Fr.app N0 Nq48
        refine Goes.by st48 ?_
        refine Goes.by (fun _ kz => XS.astore X48.here hx rfl (hb hby at_50) rfl rfl (l' := #[.val (.int p1), .val (.int p2), .val (.int (p1 &&& (3 : Int32))), .val (.int ((p2 &&& (2147483647 : Int32)) % (24 : Int32))), .val (.int p2), .val (.ref (w 4)), .unset]) rfl (XS.iload X48.here hx rfl (hb hby at_52) rfl (XS.sipush X48.here hx rfl (hb hby at_54) kz))) ?_
        show Goes p e below (T48.setTop (mkF m 57 #[.val (.int p1), .val (.int p2), .val (.int (p1 &&& (3 : Int32))), .val (.int ((p2 &&& (2147483647 : Int32)) % (24 : Int32))), .val (.int p2), .val (.ref (w 4)), .unset] [(.int (200 : Int32)), (.int p2)])) _
        refine Goes.by (fun _ kz => XS.icmpNo X48.here hx rfl (hb hby at_57) rfl (feq hk200).1 (XS.iload X48.here hx rfl (hb hby at_60) rfl (XS.sipush X48.here hx rfl (hb hby at_62) kz))) ?_
        show Goes p e below (T48.setTop (mkF m 65 #[.val (.int p1), .val (.int p2), .val (.int (p1 &&& (3 : Int32))), .val (.int ((p2 &&& (2147483647 : Int32)) % (24 : Int32))), .val (.int p2), .val (.ref (w 4)), .unset] [(.int (201 : Int32)), (.int p2)])) _
        refine Goes.by (fun _ kz => XS.icmpYes X48.here hx rfl (pc0 := 65) (pc' := 76) rfl (hb hby at_65) rfl (feq hk201).2 (by decide) (by decide) (XS.iload X48.here hx rfl (hb hby at_76) rfl (XS.sipush X48.here hx rfl (hb hby at_78) kz))) ?_
        show Goes p e below (T48.setTop (mkF m 81 #[.val (.int p1), .val (.int p2), .val (.int (p1 &&& (3 : Int32))), .val (.int ((p2 &&& (2147483647 : Int32)) % (24 : Int32))), .val (.int p2), .val (.ref (w 4)), .unset] [(.int (204 : Int32)), (.int p2)])) _
        refine Goes.by (fun _ kz => XS.icmpNo X48.here hx rfl (hb hby at_81) rfl (teq hk204).2 kz) ?_
        obtain ⟨T49, X49, e49, st49⟩ := getS2 X48 hx hZ hown (host := "") (Or.inl (hw _ (List.mem_of_getElem? (i := 19) rfl))) Via.refl e48 P.2.2.2.2.2.2.2.2.1 (g := (mkF m 84 #[.val (.int p1), .val (.int p2), .val (.int (p1 &&& (3 : Int32))), .val (.int ((p2 &&& (2147483647 : Int32)) % (24 : Int32))), .val (.int p2), .val (.ref (w 4)), .unset] [])) rfl (hb hby at_84)
        refine Goes.by st49 ?_
        refine Goes.by (fun _ kz => XS.astore X49.here hx rfl (hb hby at_87) rfl rfl (l' := #[.val (.int p1), .val (.int p2), .val (.int (p1 &&& (3 : Int32))), .val (.int ((p2 &&& (2147483647 : Int32)) % (24 : Int32))), .val (.int p2), .val (.ref (w 4)), .val (.ref (w 4))]) rfl (XS.goto X49.here hx rfl (pc0 := 89) (pc' := 153) rfl (hb hby at_89) (by decide) (by decide) (XS.aload X49.here hx rfl (hb hby at_153) rfl rfl kz))) ?_
        show Goes p e below (T49.setTop (mkF m 155 #[.val (.int p1), .val (.int p2), .val (.int (p1 &&& (3 : Int32))), .val (.int ((p2 &&& (2147483647 : Int32)) % (24 : Int32))), .val (.int p2), .val (.ref (w 4)), .val (.ref (w 4))] [(.ref (w 4))])) _
        refine Goes.by (fun _ kz => XS.aload X49.here hx rfl (hb hby at_155) rfl rfl (Jvm.RoadKit.acmp (g := (mkF m 157 #[.val (.int p1), .val (.int p2), .val (.int (p1 &&& (3 : Int32))), .val (.int ((p2 &&& (2147483647 : Int32)) % (24 : Int32))), .val (.int p2), .val (.ref (w 4)), .val (.ref (w 4))] [(.ref (w 4)), (.ref (w 4))])) X49 hx rfl rfl rfl (pc0 := 157) (pc' := 160) (same := true) rfl (hb hby at_157) rfl (decide_eq_true rfl) (by decide) (by decide) (XS.iconst X49.here hx rfl (hb hby at_160) kz))) ?_
        show Goes p e below (T49.setTop (mkF m 161 #[.val (.int p1), .val (.int p2), .val (.int (p1 &&& (3 : Int32))), .val (.int ((p2 &&& (2147483647 : Int32)) % (24 : Int32))), .val (.int p2), .val (.ref (w 4)), .val (.ref (w 4))] [(.int (1 : Int32))])) _
        refine Goes.by (fun _ kz => XS.goto X49.here hx rfl (pc0 := 161) (pc' := 165) rfl (hb hby at_161) (by decide) (by decide) kz) ?_
        show Goes p e below (T49.setTop (mkF m 165 #[.val (.int p1), .val (.int p2), .val (.int (p1 &&& (3 : Int32))), .val (.int ((p2 &&& (2147483647 : Int32)) % (24 : Int32))), .val (.int p2), .val (.ref (w 4)), .val (.ref (w 4))] [(.int (1 : Int32))])) _
        obtain ⟨fs, hr, hrun, hended, hW, hsame⟩ := X49.leave (v := some (.int (1 : Int32))) (fun h => by rw [Bd.returns] at h; cases h)
        exact ⟨_, _, retN X49 hx (t := .boolean) Bd.returns (by simp) (hb hby at_165) hr, hrun, hended, _, _, rfl, ⟨rfl, N48⟩, ⟨_, rfl⟩, hW, hsame.mono (by decide) (by decide)⟩
      by_cases hk400 : p2 = (400 : Int32)
      · show Goes p e below (s₁.setTop (mkF m 45 #[.val (.int p1), .val (.int p2), .val (.int (p1 &&& (3 : Int32))), .val (.int ((p2 &&& (2147483647 : Int32)) % (24 : Int32))), .val (.int p2), .unset, .unset] [])) _
        refine Goes.by (fun _ kz => XS.iload X0.here hx rfl (hb hby at_45) rfl kz) ?_
        obtain ⟨_, _, ⟨T50, L50, k50, n50⟩, -, X50, ⟨Lc50, hQ50, l50, y50, z50⟩, st50⟩ := Jvm.LawKit.callS X0 hx (y := (⟨"com/example/run_ledger/runledger/cli/ExitCode", "forAnswer", "(I)Lcom/example/run_ledger/runledger/cli/ExitCode;"⟩ : MethodName)) hown (mvT hZ (hw _ (List.mem_of_getElem? (i := 1) rfl))) (mvT hZ (hw _ (List.mem_of_getElem? (i := 2) rfl))) (mvT hZ (hw _ (List.mem_of_getElem? (i := 3) rfl))) (mvT hZ (hw _ (List.mem_of_getElem? (i := 4) rfl))) (by decide) (backOf (W := 0) (r1_400 l Z a0 hw [] h0 n0 Z0 p2 w hk400 P) hZ (hw _ (List.mem_of_getElem? (i := 4) rfl)) (hw _ (List.mem_of_getElem? (i := 3) rfl)) (by decide) (by decide)) (g := (mkF m 47 #[.val (.int p1), .val (.int p2), .val (.int (p1 &&& (3 : Int32))), .val (.int ((p2 &&& (2147483647 : Int32)) % (24 : Int32))), .val (.int p2), .unset, .unset] [(.int p2)])) rfl (by rw [hml]; rfl) (argsL := [(.int p2)]) (rest := []) (lenOf pd0 rfl) rfl (by show 2 * 0 + _ ≤ _; exact Nat.le_of_eq rfl) (hb hby at_47) (fun _ _ => ⟨rfl, e0, (by decide : 0 + 0 ≤ _), (by decide : 0 + 0 ≤ _)⟩)
        dsimp only [Pt.U, Pt.locs, Pt.cells, Pt.slots] at X50 l50 y50 z50 st50 hQ50
        subst l50 y50 z50
        obtain ⟨rfl, Nq50, e50⟩ := hQ50
        have N50 := Fr.app N0 Nq50
        refine Goes.by st50 ?_
        refine Goes.by (fun _ kz => XS.astore X50.here hx rfl (hb hby at_50) rfl rfl (l' := #[.val (.int p1), .val (.int p2), .val (.int (p1 &&& (3 : Int32))), .val (.int ((p2 &&& (2147483647 : Int32)) % (24 : Int32))), .val (.int p2), .val (.ref (w 2)), .unset]) rfl (XS.iload X50.here hx rfl (hb hby at_52) rfl (XS.sipush X50.here hx rfl (hb hby at_54) kz))) ?_
        show Goes p e below (T50.setTop (mkF m 57 #[.val (.int p1), .val (.int p2), .val (.int (p1 &&& (3 : Int32))), .val (.int ((p2 &&& (2147483647 : Int32)) % (24 : Int32))), .val (.int p2), .val (.ref (w 2)), .unset] [(.int (200 : Int32)), (.int p2)])) _
        refine Goes.by (fun _ kz => XS.icmpNo X50.here hx rfl (hb hby at_57) rfl (feq hk200).1 (XS.iload X50.here hx rfl (hb hby at_60) rfl (XS.sipush X50.here hx rfl (hb hby at_62) kz))) ?_
        show Goes p e below (T50.setTop (mkF m 65 #[.val (.int p1), .val (.int p2), .val (.int (p1 &&& (3 : Int32))), .val (.int ((p2 &&& (2147483647 : Int32)) % (24 : Int32))), .val (.int p2), .val (.ref (w 2)), .unset] [(.int (201 : Int32)), (.int p2)])) _
        refine Goes.by (fun _ kz => XS.icmpYes X50.here hx rfl (pc0 := 65) (pc' := 76) rfl (hb hby at_65) rfl (feq hk201).2 (by decide) (by decide) (XS.iload X50.here hx rfl (hb hby at_76) rfl (XS.sipush X50.here hx rfl (hb hby at_78) kz))) ?_
        show Goes p e below (T50.setTop (mkF m 81 #[.val (.int p1), .val (.int p2), .val (.int (p1 &&& (3 : Int32))), .val (.int ((p2 &&& (2147483647 : Int32)) % (24 : Int32))), .val (.int p2), .val (.ref (w 2)), .unset] [(.int (204 : Int32)), (.int p2)])) _
        refine Goes.by (fun _ kz => XS.icmpYes X50.here hx rfl (pc0 := 81) (pc' := 92) rfl (hb hby at_81) rfl (feq hk204).2 (by decide) (by decide) (XS.iload X50.here hx rfl (hb hby at_92) rfl (XS.sipush X50.here hx rfl (hb hby at_94) kz))) ?_
        show Goes p e below (T50.setTop (mkF m 97 #[.val (.int p1), .val (.int p2), .val (.int (p1 &&& (3 : Int32))), .val (.int ((p2 &&& (2147483647 : Int32)) % (24 : Int32))), .val (.int p2), .val (.ref (w 2)), .unset] [(.int (400 : Int32)), (.int p2)])) _
        refine Goes.by (fun _ kz => XS.icmpYes X50.here hx rfl (pc0 := 97) (pc' := 108) rfl (hb hby at_97) rfl (teq hk400).1 (by decide) (by decide) kz) ?_
        obtain ⟨T51, X51, e51, st51⟩ := getS2 X50 hx hZ hown (host := "") (Or.inl (hw _ (List.mem_of_getElem? (i := 13) rfl))) Via.refl e50 P.2.2.2.2.1 (g := (mkF m 108 #[.val (.int p1), .val (.int p2), .val (.int (p1 &&& (3 : Int32))), .val (.int ((p2 &&& (2147483647 : Int32)) % (24 : Int32))), .val (.int p2), .val (.ref (w 2)), .unset] [])) rfl (hb hby at_108)
        refine Goes.by st51 ?_
        refine Goes.by (fun _ kz => XS.astore X51.here hx rfl (hb hby at_111) rfl rfl (l' := #[.val (.int p1), .val (.int p2), .val (.int (p1 &&& (3 : Int32))), .val (.int ((p2 &&& (2147483647 : Int32)) % (24 : Int32))), .val (.int p2), .val (.ref (w 2)), .val (.ref (w 2))]) rfl (XS.goto X51.here hx rfl (pc0 := 113) (pc' := 153) rfl (hb hby at_113) (by decide) (by decide) (XS.aload X51.here hx rfl (hb hby at_153) rfl rfl kz))) ?_
        show Goes p e below (T51.setTop (mkF m 155 #[.val (.int p1), .val (.int p2), .val (.int (p1 &&& (3 : Int32))), .val (.int ((p2 &&& (2147483647 : Int32)) % (24 : Int32))), .val (.int p2), .val (.ref (w 2)), .val (.ref (w 2))] [(.ref (w 2))])) _
        refine Goes.by (fun _ kz => XS.aload X51.here hx rfl (hb hby at_155) rfl rfl (Jvm.RoadKit.acmp (g := (mkF m 157 #[.val (.int p1), .val (.int p2), .val (.int (p1 &&& (3 : Int32))), .val (.int ((p2 &&& (2147483647 : Int32)) % (24 : Int32))), .val (.int p2), .val (.ref (w 2)), .val (.ref (w 2))] [(.ref (w 2)), (.ref (w 2))])) X51 hx rfl rfl rfl (pc0 := 157) (pc' := 160) (same := true) rfl (hb hby at_157) rfl (decide_eq_true rfl) (by decide) (by decide) (XS.iconst X51.here hx rfl (hb hby at_160) kz))) ?_
        show Goes p e below (T51.setTop (mkF m 161 #[.val (.int p1), .val (.int p2), .val (.int (p1 &&& (3 : Int32))), .val (.int ((p2 &&& (2147483647 : Int32)) % (24 : Int32))), .val (.int p2), .val (.ref (w 2)), .val (.ref (w 2))] [(.int (1 : Int32))])) _
        refine Goes.by (fun _ kz => XS.goto X51.here hx rfl (pc0 := 161) (pc' := 165) rfl (hb hby at_161) (by decide) (by decide) kz) ?_
        show Goes p e below (T51.setTop (mkF m 165 #[.val (.int p1), .val (.int p2), .val (.int (p1 &&& (3 : Int32))), .val (.int ((p2 &&& (2147483647 : Int32)) % (24 : Int32))), .val (.int p2), .val (.ref (w 2)), .val (.ref (w 2))] [(.int (1 : Int32))])) _
        obtain ⟨fs, hr, hrun, hended, hW, hsame⟩ := X51.leave (v := some (.int (1 : Int32))) (fun h => by rw [Bd.returns] at h; cases h)
        exact ⟨_, _, retN X51 hx (t := .boolean) Bd.returns (by simp) (hb hby at_165) hr, hrun, hended, _, _, rfl, ⟨rfl, N50⟩, ⟨_, rfl⟩, hW, hsame.mono (by decide) (by decide)⟩
      by_cases hk404 : p2 = (404 : Int32)
      · show Goes p e below (s₁.setTop (mkF m 45 #[.val (.int p1), .val (.int p2), .val (.int (p1 &&& (3 : Int32))), .val (.int ((p2 &&& (2147483647 : Int32)) % (24 : Int32))), .val (.int p2), .unset, .unset] [])) _
        refine Goes.by (fun _ kz => XS.iload X0.here hx rfl (hb hby at_45) rfl kz) ?_
        obtain ⟨_, _, ⟨T52, L52, k52, n52⟩, -, X52, ⟨Lc52, hQ52, l52, y52, z52⟩, st52⟩ := Jvm.LawKit.callS X0 hx (y := (⟨"com/example/run_ledger/runledger/cli/ExitCode", "forAnswer", "(I)Lcom/example/run_ledger/runledger/cli/ExitCode;"⟩ : MethodName)) hown (mvT hZ (hw _ (List.mem_of_getElem? (i := 1) rfl))) (mvT hZ (hw _ (List.mem_of_getElem? (i := 2) rfl))) (mvT hZ (hw _ (List.mem_of_getElem? (i := 3) rfl))) (mvT hZ (hw _ (List.mem_of_getElem? (i := 4) rfl))) (by decide) (backOf (W := 0) (r1_404 l Z a0 hw [] h0 n0 Z0 p2 w hk404 P) hZ (hw _ (List.mem_of_getElem? (i := 4) rfl)) (hw _ (List.mem_of_getElem? (i := 3) rfl)) (by decide) (by decide)) (g := (mkF m 47 #[.val (.int p1), .val (.int p2), .val (.int (p1 &&& (3 : Int32))), .val (.int ((p2 &&& (2147483647 : Int32)) % (24 : Int32))), .val (.int p2), .unset, .unset] [(.int p2)])) rfl (by rw [hml]; rfl) (argsL := [(.int p2)]) (rest := []) (lenOf pd0 rfl) rfl (by show 2 * 0 + _ ≤ _; exact Nat.le_of_eq rfl) (hb hby at_47) (fun _ _ => ⟨rfl, e0, (by decide : 0 + 0 ≤ _), (by decide : 0 + 0 ≤ _)⟩)
        dsimp only [Pt.U, Pt.locs, Pt.cells, Pt.slots] at X52 l52 y52 z52 st52 hQ52
        subst l52 y52 z52
        obtain ⟨rfl, Nq52, e52⟩ := hQ52
        have N52 := Fr.app N0 Nq52
        refine Goes.by st52 ?_
        refine Goes.by (fun _ kz => XS.astore X52.here hx rfl (hb hby at_50) rfl rfl (l' := #[.val (.int p1), .val (.int p2), .val (.int (p1 &&& (3 : Int32))), .val (.int ((p2 &&& (2147483647 : Int32)) % (24 : Int32))), .val (.int p2), .val (.ref (w 2)), .unset]) rfl (XS.iload X52.here hx rfl (hb hby at_52) rfl (XS.sipush X52.here hx rfl (hb hby at_54) kz))) ?_
        show Goes p e below (T52.setTop (mkF m 57 #[.val (.int p1), .val (.int p2), .val (.int (p1 &&& (3 : Int32))), .val (.int ((p2 &&& (2147483647 : Int32)) % (24 : Int32))), .val (.int p2), .val (.ref (w 2)), .unset] [(.int (200 : Int32)), (.int p2)])) _
        refine Goes.by (fun _ kz => XS.icmpNo X52.here hx rfl (hb hby at_57) rfl (feq hk200).1 (XS.iload X52.here hx rfl (hb hby at_60) rfl (XS.sipush X52.here hx rfl (hb hby at_62) kz))) ?_
        show Goes p e below (T52.setTop (mkF m 65 #[.val (.int p1), .val (.int p2), .val (.int (p1 &&& (3 : Int32))), .val (.int ((p2 &&& (2147483647 : Int32)) % (24 : Int32))), .val (.int p2), .val (.ref (w 2)), .unset] [(.int (201 : Int32)), (.int p2)])) _
        refine Goes.by (fun _ kz => XS.icmpYes X52.here hx rfl (pc0 := 65) (pc' := 76) rfl (hb hby at_65) rfl (feq hk201).2 (by decide) (by decide) (XS.iload X52.here hx rfl (hb hby at_76) rfl (XS.sipush X52.here hx rfl (hb hby at_78) kz))) ?_
        show Goes p e below (T52.setTop (mkF m 81 #[.val (.int p1), .val (.int p2), .val (.int (p1 &&& (3 : Int32))), .val (.int ((p2 &&& (2147483647 : Int32)) % (24 : Int32))), .val (.int p2), .val (.ref (w 2)), .unset] [(.int (204 : Int32)), (.int p2)])) _
        refine Goes.by (fun _ kz => XS.icmpYes X52.here hx rfl (pc0 := 81) (pc' := 92) rfl (hb hby at_81) rfl (feq hk204).2 (by decide) (by decide) (XS.iload X52.here hx rfl (hb hby at_92) rfl (XS.sipush X52.here hx rfl (hb hby at_94) kz))) ?_
        show Goes p e below (T52.setTop (mkF m 97 #[.val (.int p1), .val (.int p2), .val (.int (p1 &&& (3 : Int32))), .val (.int ((p2 &&& (2147483647 : Int32)) % (24 : Int32))), .val (.int p2), .val (.ref (w 2)), .unset] [(.int (400 : Int32)), (.int p2)])) _
        refine Goes.by (fun _ kz => XS.icmpNo X52.here hx rfl (hb hby at_97) rfl (feq hk400).1 (XS.iload X52.here hx rfl (hb hby at_100) rfl (XS.sipush X52.here hx rfl (hb hby at_102) kz))) ?_
        show Goes p e below (T52.setTop (mkF m 105 #[.val (.int p1), .val (.int p2), .val (.int (p1 &&& (3 : Int32))), .val (.int ((p2 &&& (2147483647 : Int32)) % (24 : Int32))), .val (.int p2), .val (.ref (w 2)), .unset] [(.int (404 : Int32)), (.int p2)])) _
        refine Goes.by (fun _ kz => XS.icmpNo X52.here hx rfl (hb hby at_105) rfl (teq hk404).2 kz) ?_
        obtain ⟨T53, X53, e53, st53⟩ := getS2 X52 hx hZ hown (host := "") (Or.inl (hw _ (List.mem_of_getElem? (i := 13) rfl))) Via.refl e52 P.2.2.2.2.1 (g := (mkF m 108 #[.val (.int p1), .val (.int p2), .val (.int (p1 &&& (3 : Int32))), .val (.int ((p2 &&& (2147483647 : Int32)) % (24 : Int32))), .val (.int p2), .val (.ref (w 2)), .unset] [])) rfl (hb hby at_108)
        refine Goes.by st53 ?_
        refine Goes.by (fun _ kz => XS.astore X53.here hx rfl (hb hby at_111) rfl rfl (l' := #[.val (.int p1), .val (.int p2), .val (.int (p1 &&& (3 : Int32))), .val (.int ((p2 &&& (2147483647 : Int32)) % (24 : Int32))), .val (.int p2), .val (.ref (w 2)), .val (.ref (w 2))]) rfl (XS.goto X53.here hx rfl (pc0 := 113) (pc' := 153) rfl (hb hby at_113) (by decide) (by decide) (XS.aload X53.here hx rfl (hb hby at_153) rfl rfl kz))) ?_
        show Goes p e below (T53.setTop (mkF m 155 #[.val (.int p1), .val (.int p2), .val (.int (p1 &&& (3 : Int32))), .val (.int ((p2 &&& (2147483647 : Int32)) % (24 : Int32))), .val (.int p2), .val (.ref (w 2)), .val (.ref (w 2))] [(.ref (w 2))])) _
        refine Goes.by (fun _ kz => XS.aload X53.here hx rfl (hb hby at_155) rfl rfl (Jvm.RoadKit.acmp (g := (mkF m 157 #[.val (.int p1), .val (.int p2), .val (.int (p1 &&& (3 : Int32))), .val (.int ((p2 &&& (2147483647 : Int32)) % (24 : Int32))), .val (.int p2), .val (.ref (w 2)), .val (.ref (w 2))] [(.ref (w 2)), (.ref (w 2))])) X53 hx rfl rfl rfl (pc0 := 157) (pc' := 160) (same := true) rfl (hb hby at_157) rfl (decide_eq_true rfl) (by decide) (by decide) (XS.iconst X53.here hx rfl (hb hby at_160) kz))) ?_
        show Goes p e below (T53.setTop (mkF m 161 #[.val (.int p1), .val (.int p2), .val (.int (p1 &&& (3 : Int32))), .val (.int ((p2 &&& (2147483647 : Int32)) % (24 : Int32))), .val (.int p2), .val (.ref (w 2)), .val (.ref (w 2))] [(.int (1 : Int32))])) _
        refine Goes.by (fun _ kz => XS.goto X53.here hx rfl (pc0 := 161) (pc' := 165) rfl (hb hby at_161) (by decide) (by decide) kz) ?_
        show Goes p e below (T53.setTop (mkF m 165 #[.val (.int p1), .val (.int p2), .val (.int (p1 &&& (3 : Int32))), .val (.int ((p2 &&& (2147483647 : Int32)) % (24 : Int32))), .val (.int p2), .val (.ref (w 2)), .val (.ref (w 2))] [(.int (1 : Int32))])) _
        obtain ⟨fs, hr, hrun, hended, hW, hsame⟩ := X53.leave (v := some (.int (1 : Int32))) (fun h => by rw [Bd.returns] at h; cases h)
        exact ⟨_, _, retN X53 hx (t := .boolean) Bd.returns (by simp) (hb hby at_165) hr, hrun, hended, _, _, rfl, ⟨rfl, N52⟩, ⟨_, rfl⟩, hW, hsame.mono (by decide) (by decide)⟩
      by_cases hk409 : p2 = (409 : Int32)
      · show Goes p e below (s₁.setTop (mkF m 45 #[.val (.int p1), .val (.int p2), .val (.int (p1 &&& (3 : Int32))), .val (.int ((p2 &&& (2147483647 : Int32)) % (24 : Int32))), .val (.int p2), .unset, .unset] [])) _
        refine Goes.by (fun _ kz => XS.iload X0.here hx rfl (hb hby at_45) rfl kz) ?_
        obtain ⟨_, _, ⟨T54, L54, k54, n54⟩, -, X54, ⟨Lc54, hQ54, l54, y54, z54⟩, st54⟩ := Jvm.LawKit.callS X0 hx (y := (⟨"com/example/run_ledger/runledger/cli/ExitCode", "forAnswer", "(I)Lcom/example/run_ledger/runledger/cli/ExitCode;"⟩ : MethodName)) hown (mvT hZ (hw _ (List.mem_of_getElem? (i := 1) rfl))) (mvT hZ (hw _ (List.mem_of_getElem? (i := 2) rfl))) (mvT hZ (hw _ (List.mem_of_getElem? (i := 3) rfl))) (mvT hZ (hw _ (List.mem_of_getElem? (i := 4) rfl))) (by decide) (backOf (W := 0) (r1_409 l Z a0 hw [] h0 n0 Z0 p2 w hk409 P) hZ (hw _ (List.mem_of_getElem? (i := 4) rfl)) (hw _ (List.mem_of_getElem? (i := 3) rfl)) (by decide) (by decide)) (g := (mkF m 47 #[.val (.int p1), .val (.int p2), .val (.int (p1 &&& (3 : Int32))), .val (.int ((p2 &&& (2147483647 : Int32)) % (24 : Int32))), .val (.int p2), .unset, .unset] [(.int p2)])) rfl (by rw [hml]; rfl) (argsL := [(.int p2)]) (rest := []) (lenOf pd0 rfl) rfl (by show 2 * 0 + _ ≤ _; exact Nat.le_of_eq rfl) (hb hby at_47) (fun _ _ => ⟨rfl, e0, (by decide : 0 + 0 ≤ _), (by decide : 0 + 0 ≤ _)⟩)
        dsimp only [Pt.U, Pt.locs, Pt.cells, Pt.slots] at X54 l54 y54 z54 st54 hQ54
        subst l54 y54 z54
        obtain ⟨rfl, Nq54, e54⟩ := hQ54
        have N54 := Fr.app N0 Nq54
        refine Goes.by st54 ?_
        refine Goes.by (fun _ kz => XS.astore X54.here hx rfl (hb hby at_50) rfl rfl (l' := #[.val (.int p1), .val (.int p2), .val (.int (p1 &&& (3 : Int32))), .val (.int ((p2 &&& (2147483647 : Int32)) % (24 : Int32))), .val (.int p2), .val (.ref (w 3)), .unset]) rfl (XS.iload X54.here hx rfl (hb hby at_52) rfl (XS.sipush X54.here hx rfl (hb hby at_54) kz))) ?_
        show Goes p e below (T54.setTop (mkF m 57 #[.val (.int p1), .val (.int p2), .val (.int (p1 &&& (3 : Int32))), .val (.int ((p2 &&& (2147483647 : Int32)) % (24 : Int32))), .val (.int p2), .val (.ref (w 3)), .unset] [(.int (200 : Int32)), (.int p2)])) _
        refine Goes.by (fun _ kz => XS.icmpNo X54.here hx rfl (hb hby at_57) rfl (feq hk200).1 (XS.iload X54.here hx rfl (hb hby at_60) rfl (XS.sipush X54.here hx rfl (hb hby at_62) kz))) ?_
        show Goes p e below (T54.setTop (mkF m 65 #[.val (.int p1), .val (.int p2), .val (.int (p1 &&& (3 : Int32))), .val (.int ((p2 &&& (2147483647 : Int32)) % (24 : Int32))), .val (.int p2), .val (.ref (w 3)), .unset] [(.int (201 : Int32)), (.int p2)])) _
        refine Goes.by (fun _ kz => XS.icmpYes X54.here hx rfl (pc0 := 65) (pc' := 76) rfl (hb hby at_65) rfl (feq hk201).2 (by decide) (by decide) (XS.iload X54.here hx rfl (hb hby at_76) rfl (XS.sipush X54.here hx rfl (hb hby at_78) kz))) ?_
        show Goes p e below (T54.setTop (mkF m 81 #[.val (.int p1), .val (.int p2), .val (.int (p1 &&& (3 : Int32))), .val (.int ((p2 &&& (2147483647 : Int32)) % (24 : Int32))), .val (.int p2), .val (.ref (w 3)), .unset] [(.int (204 : Int32)), (.int p2)])) _
        refine Goes.by (fun _ kz => XS.icmpYes X54.here hx rfl (pc0 := 81) (pc' := 92) rfl (hb hby at_81) rfl (feq hk204).2 (by decide) (by decide) (XS.iload X54.here hx rfl (hb hby at_92) rfl (XS.sipush X54.here hx rfl (hb hby at_94) kz))) ?_
        show Goes p e below (T54.setTop (mkF m 97 #[.val (.int p1), .val (.int p2), .val (.int (p1 &&& (3 : Int32))), .val (.int ((p2 &&& (2147483647 : Int32)) % (24 : Int32))), .val (.int p2), .val (.ref (w 3)), .unset] [(.int (400 : Int32)), (.int p2)])) _
        refine Goes.by (fun _ kz => XS.icmpNo X54.here hx rfl (hb hby at_97) rfl (feq hk400).1 (XS.iload X54.here hx rfl (hb hby at_100) rfl (XS.sipush X54.here hx rfl (hb hby at_102) kz))) ?_
        show Goes p e below (T54.setTop (mkF m 105 #[.val (.int p1), .val (.int p2), .val (.int (p1 &&& (3 : Int32))), .val (.int ((p2 &&& (2147483647 : Int32)) % (24 : Int32))), .val (.int p2), .val (.ref (w 3)), .unset] [(.int (404 : Int32)), (.int p2)])) _
        refine Goes.by (fun _ kz => XS.icmpYes X54.here hx rfl (pc0 := 105) (pc' := 116) rfl (hb hby at_105) rfl (feq hk404).2 (by decide) (by decide) (XS.iload X54.here hx rfl (hb hby at_116) rfl (XS.sipush X54.here hx rfl (hb hby at_118) kz))) ?_
        show Goes p e below (T54.setTop (mkF m 121 #[.val (.int p1), .val (.int p2), .val (.int (p1 &&& (3 : Int32))), .val (.int ((p2 &&& (2147483647 : Int32)) % (24 : Int32))), .val (.int p2), .val (.ref (w 3)), .unset] [(.int (409 : Int32)), (.int p2)])) _
        refine Goes.by (fun _ kz => XS.icmpNo X54.here hx rfl (hb hby at_121) rfl (teq hk409).2 kz) ?_
        obtain ⟨T55, X55, e55, st55⟩ := getS2 X54 hx hZ hown (host := "") (Or.inl (hw _ (List.mem_of_getElem? (i := 16) rfl))) Via.refl e54 P.2.2.2.2.2.2.1 (g := (mkF m 124 #[.val (.int p1), .val (.int p2), .val (.int (p1 &&& (3 : Int32))), .val (.int ((p2 &&& (2147483647 : Int32)) % (24 : Int32))), .val (.int p2), .val (.ref (w 3)), .unset] [])) rfl (hb hby at_124)
        refine Goes.by st55 ?_
        refine Goes.by (fun _ kz => XS.astore X55.here hx rfl (hb hby at_127) rfl rfl (l' := #[.val (.int p1), .val (.int p2), .val (.int (p1 &&& (3 : Int32))), .val (.int ((p2 &&& (2147483647 : Int32)) % (24 : Int32))), .val (.int p2), .val (.ref (w 3)), .val (.ref (w 3))]) rfl (XS.goto X55.here hx rfl (pc0 := 129) (pc' := 153) rfl (hb hby at_129) (by decide) (by decide) (XS.aload X55.here hx rfl (hb hby at_153) rfl rfl kz))) ?_
        show Goes p e below (T55.setTop (mkF m 155 #[.val (.int p1), .val (.int p2), .val (.int (p1 &&& (3 : Int32))), .val (.int ((p2 &&& (2147483647 : Int32)) % (24 : Int32))), .val (.int p2), .val (.ref (w 3)), .val (.ref (w 3))] [(.ref (w 3))])) _
        refine Goes.by (fun _ kz => XS.aload X55.here hx rfl (hb hby at_155) rfl rfl (Jvm.RoadKit.acmp (g := (mkF m 157 #[.val (.int p1), .val (.int p2), .val (.int (p1 &&& (3 : Int32))), .val (.int ((p2 &&& (2147483647 : Int32)) % (24 : Int32))), .val (.int p2), .val (.ref (w 3)), .val (.ref (w 3))] [(.ref (w 3)), (.ref (w 3))])) X55 hx rfl rfl rfl (pc0 := 157) (pc' := 160) (same := true) rfl (hb hby at_157) rfl (decide_eq_true rfl) (by decide) (by decide) (XS.iconst X55.here hx rfl (hb hby at_160) kz))) ?_
        show Goes p e below (T55.setTop (mkF m 161 #[.val (.int p1), .val (.int p2), .val (.int (p1 &&& (3 : Int32))), .val (.int ((p2 &&& (2147483647 : Int32)) % (24 : Int32))), .val (.int p2), .val (.ref (w 3)), .val (.ref (w 3))] [(.int (1 : Int32))])) _
        refine Goes.by (fun _ kz => XS.goto X55.here hx rfl (pc0 := 161) (pc' := 165) rfl (hb hby at_161) (by decide) (by decide) kz) ?_
        show Goes p e below (T55.setTop (mkF m 165 #[.val (.int p1), .val (.int p2), .val (.int (p1 &&& (3 : Int32))), .val (.int ((p2 &&& (2147483647 : Int32)) % (24 : Int32))), .val (.int p2), .val (.ref (w 3)), .val (.ref (w 3))] [(.int (1 : Int32))])) _
        obtain ⟨fs, hr, hrun, hended, hW, hsame⟩ := X55.leave (v := some (.int (1 : Int32))) (fun h => by rw [Bd.returns] at h; cases h)
        exact ⟨_, _, retN X55 hx (t := .boolean) Bd.returns (by simp) (hb hby at_165) hr, hrun, hended, _, _, rfl, ⟨rfl, N54⟩, ⟨_, rfl⟩, hW, hsame.mono (by decide) (by decide)⟩
      by_cases hk410 : p2 = (410 : Int32)
      · show Goes p e below (s₁.setTop (mkF m 45 #[.val (.int p1), .val (.int p2), .val (.int (p1 &&& (3 : Int32))), .val (.int ((p2 &&& (2147483647 : Int32)) % (24 : Int32))), .val (.int p2), .unset, .unset] [])) _
        refine Goes.by (fun _ kz => XS.iload X0.here hx rfl (hb hby at_45) rfl kz) ?_
        obtain ⟨_, _, ⟨T56, L56, k56, n56⟩, -, X56, ⟨Lc56, hQ56, l56, y56, z56⟩, st56⟩ := Jvm.LawKit.callS X0 hx (y := (⟨"com/example/run_ledger/runledger/cli/ExitCode", "forAnswer", "(I)Lcom/example/run_ledger/runledger/cli/ExitCode;"⟩ : MethodName)) hown (mvT hZ (hw _ (List.mem_of_getElem? (i := 1) rfl))) (mvT hZ (hw _ (List.mem_of_getElem? (i := 2) rfl))) (mvT hZ (hw _ (List.mem_of_getElem? (i := 3) rfl))) (mvT hZ (hw _ (List.mem_of_getElem? (i := 4) rfl))) (by decide) (backOf (W := 0) (r1_410 l Z a0 hw [] h0 n0 Z0 p2 w hk410 P) hZ (hw _ (List.mem_of_getElem? (i := 4) rfl)) (hw _ (List.mem_of_getElem? (i := 3) rfl)) (by decide) (by decide)) (g := (mkF m 47 #[.val (.int p1), .val (.int p2), .val (.int (p1 &&& (3 : Int32))), .val (.int ((p2 &&& (2147483647 : Int32)) % (24 : Int32))), .val (.int p2), .unset, .unset] [(.int p2)])) rfl (by rw [hml]; rfl) (argsL := [(.int p2)]) (rest := []) (lenOf pd0 rfl) rfl (by show 2 * 0 + _ ≤ _; exact Nat.le_of_eq rfl) (hb hby at_47) (fun _ _ => ⟨rfl, e0, (by decide : 0 + 0 ≤ _), (by decide : 0 + 0 ≤ _)⟩)
        dsimp only [Pt.U, Pt.locs, Pt.cells, Pt.slots] at X56 l56 y56 z56 st56 hQ56
        subst l56 y56 z56
        obtain ⟨rfl, Nq56, e56⟩ := hQ56
        have N56 := Fr.app N0 Nq56
        refine Goes.by st56 ?_
        refine Goes.by (fun _ kz => XS.astore X56.here hx rfl (hb hby at_50) rfl rfl (l' := #[.val (.int p1), .val (.int p2), .val (.int (p1 &&& (3 : Int32))), .val (.int ((p2 &&& (2147483647 : Int32)) % (24 : Int32))), .val (.int p2), .val (.ref (w 5)), .unset]) rfl (XS.iload X56.here hx rfl (hb hby at_52) rfl (XS.sipush X56.here hx rfl (hb hby at_54) kz))) ?_
        show Goes p e below (T56.setTop (mkF m 57 #[.val (.int p1), .val (.int p2), .val (.int (p1 &&& (3 : Int32))), .val (.int ((p2 &&& (2147483647 : Int32)) % (24 : Int32))), .val (.int p2), .val (.ref (w 5)), .unset] [(.int (200 : Int32)), (.int p2)])) _
        refine Goes.by (fun _ kz => XS.icmpNo X56.here hx rfl (hb hby at_57) rfl (feq hk200).1 (XS.iload X56.here hx rfl (hb hby at_60) rfl (XS.sipush X56.here hx rfl (hb hby at_62) kz))) ?_
        show Goes p e below (T56.setTop (mkF m 65 #[.val (.int p1), .val (.int p2), .val (.int (p1 &&& (3 : Int32))), .val (.int ((p2 &&& (2147483647 : Int32)) % (24 : Int32))), .val (.int p2), .val (.ref (w 5)), .unset] [(.int (201 : Int32)), (.int p2)])) _
        refine Goes.by (fun _ kz => XS.icmpYes X56.here hx rfl (pc0 := 65) (pc' := 76) rfl (hb hby at_65) rfl (feq hk201).2 (by decide) (by decide) (XS.iload X56.here hx rfl (hb hby at_76) rfl (XS.sipush X56.here hx rfl (hb hby at_78) kz))) ?_
        show Goes p e below (T56.setTop (mkF m 81 #[.val (.int p1), .val (.int p2), .val (.int (p1 &&& (3 : Int32))), .val (.int ((p2 &&& (2147483647 : Int32)) % (24 : Int32))), .val (.int p2), .val (.ref (w 5)), .unset] [(.int (204 : Int32)), (.int p2)])) _
        refine Goes.by (fun _ kz => XS.icmpYes X56.here hx rfl (pc0 := 81) (pc' := 92) rfl (hb hby at_81) rfl (feq hk204).2 (by decide) (by decide) (XS.iload X56.here hx rfl (hb hby at_92) rfl (XS.sipush X56.here hx rfl (hb hby at_94) kz))) ?_
        show Goes p e below (T56.setTop (mkF m 97 #[.val (.int p1), .val (.int p2), .val (.int (p1 &&& (3 : Int32))), .val (.int ((p2 &&& (2147483647 : Int32)) % (24 : Int32))), .val (.int p2), .val (.ref (w 5)), .unset] [(.int (400 : Int32)), (.int p2)])) _
        refine Goes.by (fun _ kz => XS.icmpNo X56.here hx rfl (hb hby at_97) rfl (feq hk400).1 (XS.iload X56.here hx rfl (hb hby at_100) rfl (XS.sipush X56.here hx rfl (hb hby at_102) kz))) ?_
        show Goes p e below (T56.setTop (mkF m 105 #[.val (.int p1), .val (.int p2), .val (.int (p1 &&& (3 : Int32))), .val (.int ((p2 &&& (2147483647 : Int32)) % (24 : Int32))), .val (.int p2), .val (.ref (w 5)), .unset] [(.int (404 : Int32)), (.int p2)])) _
        refine Goes.by (fun _ kz => XS.icmpYes X56.here hx rfl (pc0 := 105) (pc' := 116) rfl (hb hby at_105) rfl (feq hk404).2 (by decide) (by decide) (XS.iload X56.here hx rfl (hb hby at_116) rfl (XS.sipush X56.here hx rfl (hb hby at_118) kz))) ?_
        show Goes p e below (T56.setTop (mkF m 121 #[.val (.int p1), .val (.int p2), .val (.int (p1 &&& (3 : Int32))), .val (.int ((p2 &&& (2147483647 : Int32)) % (24 : Int32))), .val (.int p2), .val (.ref (w 5)), .unset] [(.int (409 : Int32)), (.int p2)])) _
        refine Goes.by (fun _ kz => XS.icmpYes X56.here hx rfl (pc0 := 121) (pc' := 132) rfl (hb hby at_121) rfl (feq hk409).2 (by decide) (by decide) (XS.iload X56.here hx rfl (hb hby at_132) rfl (XS.sipush X56.here hx rfl (hb hby at_134) kz))) ?_
        show Goes p e below (T56.setTop (mkF m 137 #[.val (.int p1), .val (.int p2), .val (.int (p1 &&& (3 : Int32))), .val (.int ((p2 &&& (2147483647 : Int32)) % (24 : Int32))), .val (.int p2), .val (.ref (w 5)), .unset] [(.int (410 : Int32)), (.int p2)])) _
        refine Goes.by (fun _ kz => XS.icmpNo X56.here hx rfl (hb hby at_137) rfl (teq hk410).2 kz) ?_
        obtain ⟨T57, X57, e57, st57⟩ := getS2 X56 hx hZ hown (host := "") (Or.inl (hw _ (List.mem_of_getElem? (i := 22) rfl))) Via.refl e56 P.2.2.2.2.2.2.2.2.2.2.1 (g := (mkF m 140 #[.val (.int p1), .val (.int p2), .val (.int (p1 &&& (3 : Int32))), .val (.int ((p2 &&& (2147483647 : Int32)) % (24 : Int32))), .val (.int p2), .val (.ref (w 5)), .unset] [])) rfl (hb hby at_140)
        refine Goes.by st57 ?_
        refine Goes.by (fun _ kz => XS.astore X57.here hx rfl (hb hby at_143) rfl rfl (l' := #[.val (.int p1), .val (.int p2), .val (.int (p1 &&& (3 : Int32))), .val (.int ((p2 &&& (2147483647 : Int32)) % (24 : Int32))), .val (.int p2), .val (.ref (w 5)), .val (.ref (w 5))]) rfl (XS.goto X57.here hx rfl (pc0 := 145) (pc' := 153) rfl (hb hby at_145) (by decide) (by decide) (XS.aload X57.here hx rfl (hb hby at_153) rfl rfl kz))) ?_
        show Goes p e below (T57.setTop (mkF m 155 #[.val (.int p1), .val (.int p2), .val (.int (p1 &&& (3 : Int32))), .val (.int ((p2 &&& (2147483647 : Int32)) % (24 : Int32))), .val (.int p2), .val (.ref (w 5)), .val (.ref (w 5))] [(.ref (w 5))])) _
        refine Goes.by (fun _ kz => XS.aload X57.here hx rfl (hb hby at_155) rfl rfl (Jvm.RoadKit.acmp (g := (mkF m 157 #[.val (.int p1), .val (.int p2), .val (.int (p1 &&& (3 : Int32))), .val (.int ((p2 &&& (2147483647 : Int32)) % (24 : Int32))), .val (.int p2), .val (.ref (w 5)), .val (.ref (w 5))] [(.ref (w 5)), (.ref (w 5))])) X57 hx rfl rfl rfl (pc0 := 157) (pc' := 160) (same := true) rfl (hb hby at_157) rfl (decide_eq_true rfl) (by decide) (by decide) (XS.iconst X57.here hx rfl (hb hby at_160) kz))) ?_
        show Goes p e below (T57.setTop (mkF m 161 #[.val (.int p1), .val (.int p2), .val (.int (p1 &&& (3 : Int32))), .val (.int ((p2 &&& (2147483647 : Int32)) % (24 : Int32))), .val (.int p2), .val (.ref (w 5)), .val (.ref (w 5))] [(.int (1 : Int32))])) _
        refine Goes.by (fun _ kz => XS.goto X57.here hx rfl (pc0 := 161) (pc' := 165) rfl (hb hby at_161) (by decide) (by decide) kz) ?_
        show Goes p e below (T57.setTop (mkF m 165 #[.val (.int p1), .val (.int p2), .val (.int (p1 &&& (3 : Int32))), .val (.int ((p2 &&& (2147483647 : Int32)) % (24 : Int32))), .val (.int p2), .val (.ref (w 5)), .val (.ref (w 5))] [(.int (1 : Int32))])) _
        obtain ⟨fs, hr, hrun, hended, hW, hsame⟩ := X57.leave (v := some (.int (1 : Int32))) (fun h => by rw [Bd.returns] at h; cases h)
        exact ⟨_, _, retN X57 hx (t := .boolean) Bd.returns (by simp) (hb hby at_165) hr, hrun, hended, _, _, rfl, ⟨rfl, N56⟩, ⟨_, rfl⟩, hW, hsame.mono (by decide) (by decide)⟩
      refine Goes.by (fun _ kz => XS.iload X0.here hx rfl (hb hby at_45) rfl kz) ?_
      obtain ⟨_, _, ⟨T58, L58, k58, n58⟩, -, X58, ⟨Lc58, hQ58, l58, y58, z58⟩, st58⟩ := Jvm.LawKit.callS X0 hx (y := (⟨"com/example/run_ledger/runledger/cli/ExitCode", "forAnswer", "(I)Lcom/example/run_ledger/runledger/cli/ExitCode;"⟩ : MethodName)) hown (mvT hZ (hw _ (List.mem_of_getElem? (i := 1) rfl))) (mvT hZ (hw _ (List.mem_of_getElem? (i := 2) rfl))) (mvT hZ (hw _ (List.mem_of_getElem? (i := 3) rfl))) (mvT hZ (hw _ (List.mem_of_getElem? (i := 4) rfl))) (by decide) (backOf (W := 0) (r1_x l Z a0 hw [] h0 n0 Z0 p2 w hk200 hk201 hk204 hk400 hk404 hk409 hk410 P) hZ (hw _ (List.mem_of_getElem? (i := 4) rfl)) (hw _ (List.mem_of_getElem? (i := 3) rfl)) (by decide) (by decide)) (g := (mkF m 47 #[.val (.int p1), .val (.int p2), .val (.int (p1 &&& (3 : Int32))), .val (.int ((p2 &&& (2147483647 : Int32)) % (24 : Int32))), .val (.int p2), .unset, .unset] [(.int p2)])) rfl (by rw [hml]; rfl) (argsL := [(.int p2)]) (rest := []) (lenOf pd0 rfl) rfl (by show 2 * 0 + _ ≤ _; exact Nat.le_of_eq rfl) (hb hby at_47) (fun _ _ => ⟨rfl, e0, (by decide : 0 + 0 ≤ _), (by decide : 0 + 0 ≤ _)⟩)
      dsimp only [Pt.U, Pt.locs, Pt.cells, Pt.slots] at X58 l58 y58 z58 st58 hQ58
      subst l58 y58 z58
      obtain ⟨rfl, Nq58, e58⟩ := hQ58
      have N58 := Fr.app N0 Nq58
      refine Goes.by st58 ?_
      refine Goes.by (fun _ kz => XS.astore X58.here hx rfl (hb hby at_50) rfl rfl (l' := #[.val (.int p1), .val (.int p2), .val (.int (p1 &&& (3 : Int32))), .val (.int ((p2 &&& (2147483647 : Int32)) % (24 : Int32))), .val (.int p2), .val (.ref (w 0)), .unset]) rfl (XS.iload X58.here hx rfl (hb hby at_52) rfl (XS.sipush X58.here hx rfl (hb hby at_54) kz))) ?_
      show Goes p e below (T58.setTop (mkF m 57 #[.val (.int p1), .val (.int p2), .val (.int (p1 &&& (3 : Int32))), .val (.int ((p2 &&& (2147483647 : Int32)) % (24 : Int32))), .val (.int p2), .val (.ref (w 0)), .unset] [(.int (200 : Int32)), (.int p2)])) _
      refine Goes.by (fun _ kz => XS.icmpNo X58.here hx rfl (hb hby at_57) rfl (feq hk200).1 (XS.iload X58.here hx rfl (hb hby at_60) rfl (XS.sipush X58.here hx rfl (hb hby at_62) kz))) ?_
      show Goes p e below (T58.setTop (mkF m 65 #[.val (.int p1), .val (.int p2), .val (.int (p1 &&& (3 : Int32))), .val (.int ((p2 &&& (2147483647 : Int32)) % (24 : Int32))), .val (.int p2), .val (.ref (w 0)), .unset] [(.int (201 : Int32)), (.int p2)])) _
      refine Goes.by (fun _ kz => XS.icmpYes X58.here hx rfl (pc0 := 65) (pc' := 76) rfl (hb hby at_65) rfl (feq hk201).2 (by decide) (by decide) (XS.iload X58.here hx rfl (hb hby at_76) rfl (XS.sipush X58.here hx rfl (hb hby at_78) kz))) ?_
      show Goes p e below (T58.setTop (mkF m 81 #[.val (.int p1), .val (.int p2), .val (.int (p1 &&& (3 : Int32))), .val (.int ((p2 &&& (2147483647 : Int32)) % (24 : Int32))), .val (.int p2), .val (.ref (w 0)), .unset] [(.int (204 : Int32)), (.int p2)])) _
      refine Goes.by (fun _ kz => XS.icmpYes X58.here hx rfl (pc0 := 81) (pc' := 92) rfl (hb hby at_81) rfl (feq hk204).2 (by decide) (by decide) (XS.iload X58.here hx rfl (hb hby at_92) rfl (XS.sipush X58.here hx rfl (hb hby at_94) kz))) ?_
      show Goes p e below (T58.setTop (mkF m 97 #[.val (.int p1), .val (.int p2), .val (.int (p1 &&& (3 : Int32))), .val (.int ((p2 &&& (2147483647 : Int32)) % (24 : Int32))), .val (.int p2), .val (.ref (w 0)), .unset] [(.int (400 : Int32)), (.int p2)])) _
      refine Goes.by (fun _ kz => XS.icmpNo X58.here hx rfl (hb hby at_97) rfl (feq hk400).1 (XS.iload X58.here hx rfl (hb hby at_100) rfl (XS.sipush X58.here hx rfl (hb hby at_102) kz))) ?_
      show Goes p e below (T58.setTop (mkF m 105 #[.val (.int p1), .val (.int p2), .val (.int (p1 &&& (3 : Int32))), .val (.int ((p2 &&& (2147483647 : Int32)) % (24 : Int32))), .val (.int p2), .val (.ref (w 0)), .unset] [(.int (404 : Int32)), (.int p2)])) _
      refine Goes.by (fun _ kz => XS.icmpYes X58.here hx rfl (pc0 := 105) (pc' := 116) rfl (hb hby at_105) rfl (feq hk404).2 (by decide) (by decide) (XS.iload X58.here hx rfl (hb hby at_116) rfl (XS.sipush X58.here hx rfl (hb hby at_118) kz))) ?_
      show Goes p e below (T58.setTop (mkF m 121 #[.val (.int p1), .val (.int p2), .val (.int (p1 &&& (3 : Int32))), .val (.int ((p2 &&& (2147483647 : Int32)) % (24 : Int32))), .val (.int p2), .val (.ref (w 0)), .unset] [(.int (409 : Int32)), (.int p2)])) _
      refine Goes.by (fun _ kz => XS.icmpYes X58.here hx rfl (pc0 := 121) (pc' := 132) rfl (hb hby at_121) rfl (feq hk409).2 (by decide) (by decide) (XS.iload X58.here hx rfl (hb hby at_132) rfl (XS.sipush X58.here hx rfl (hb hby at_134) kz))) ?_
      show Goes p e below (T58.setTop (mkF m 137 #[.val (.int p1), .val (.int p2), .val (.int (p1 &&& (3 : Int32))), .val (.int ((p2 &&& (2147483647 : Int32)) % (24 : Int32))), .val (.int p2), .val (.ref (w 0)), .unset] [(.int (410 : Int32)), (.int p2)])) _
      refine Goes.by (fun _ kz => XS.icmpYes X58.here hx rfl (pc0 := 137) (pc' := 148) rfl (hb hby at_137) rfl (feq hk410).2 (by decide) (by decide) kz) ?_
      obtain ⟨T59, X59, e59, st59⟩ := getS2 X58 hx hZ hown (host := "") (Or.inl (hw _ (List.mem_of_getElem? (i := 7) rfl))) Via.refl e58 P.1 (g := (mkF m 148 #[.val (.int p1), .val (.int p2), .val (.int (p1 &&& (3 : Int32))), .val (.int ((p2 &&& (2147483647 : Int32)) % (24 : Int32))), .val (.int p2), .val (.ref (w 0)), .unset] [])) rfl (hb hby at_148)
      refine Goes.by st59 ?_
      refine Goes.by (fun _ kz => XS.astore X59.here hx rfl (hb hby at_151) rfl rfl (l' := #[.val (.int p1), .val (.int p2), .val (.int (p1 &&& (3 : Int32))), .val (.int ((p2 &&& (2147483647 : Int32)) % (24 : Int32))), .val (.int p2), .val (.ref (w 0)), .val (.ref (w 0))]) rfl (XS.aload X59.here hx rfl (hb hby at_153) rfl rfl (XS.aload X59.here hx rfl (hb hby at_155) rfl rfl kz))) ?_
      show Goes p e below (T59.setTop (mkF m 157 #[.val (.int p1), .val (.int p2), .val (.int (p1 &&& (3 : Int32))), .val (.int ((p2 &&& (2147483647 : Int32)) % (24 : Int32))), .val (.int p2), .val (.ref (w 0)), .val (.ref (w 0))] [(.ref (w 0)), (.ref (w 0))])) _
      refine Goes.by (fun _ kz => Jvm.RoadKit.acmp (g := (mkF m 157 #[.val (.int p1), .val (.int p2), .val (.int (p1 &&& (3 : Int32))), .val (.int ((p2 &&& (2147483647 : Int32)) % (24 : Int32))), .val (.int p2), .val (.ref (w 0)), .val (.ref (w 0))] [(.ref (w 0)), (.ref (w 0))])) X59 hx rfl rfl rfl (pc0 := 157) (pc' := 160) (same := true) rfl (hb hby at_157) rfl (decide_eq_true rfl) (by decide) (by decide) (XS.iconst X59.here hx rfl (hb hby at_160) (XS.goto X59.here hx rfl (pc0 := 161) (pc' := 165) rfl (hb hby at_161) (by decide) (by decide) kz))) ?_
      show Goes p e below (T59.setTop (mkF m 165 #[.val (.int p1), .val (.int p2), .val (.int (p1 &&& (3 : Int32))), .val (.int ((p2 &&& (2147483647 : Int32)) % (24 : Int32))), .val (.int p2), .val (.ref (w 0)), .val (.ref (w 0))] [(.int (1 : Int32))])) _
      obtain ⟨fs, hr, hrun, hended, hW, hsame⟩ := X59.leave (v := some (.int (1 : Int32))) (fun h => by rw [Bd.returns] at h; cases h)
      exact ⟨_, _, retN X59 hx (t := .boolean) Bd.returns (by simp) (hb hby at_165) hr, hrun, hended, _, _, rfl, ⟨rfl, N58⟩, ⟨_, rfl⟩, hW, hsame.mono (by decide) (by decide)⟩
set_option maxRecDepth 65536 in
set_option maxHeartbeats 40000000 in
theorem comes_1 {Post : Tables → Env → Array Value → State → Outcome → State → Prop} (hpost : ∀ tb e args s v u, (limb_1_1.after args s (.returned v) u = true ∧ limb_1_2.after args s (.returned v) u = true ∧ True) → FrameEnd s (.returned v) u (Jvm.fieldLocs frame_1_writes args s ++ Jvm.arrayLocs frame_1_arrays args s ++ Jvm.staticLocs frame_1_statics s) 0 0 → Post tb e args s (.returned v) u) :
    ArmFor flags0 classFile x code maxLocals ret World_1 tables_1 room_1 Calls_1 rest_1 Pre_1 Post := by
  intro l hfl _ _ p e ha hc hk s m args below hf hA hF happ hP
  obtain ⟨hcalls, hrest, hpre⟩ := hP
  obtain ⟨-, -, -, hnamed, -, -, -, hat⟩ := (Spec.applies_iff hf).mp happ
  obtain ⟨hg, hn⟩ := and_e (Cond.before_iff.mp (show (Jvm.Cond.and given_1 narrow_1).before args s = true from hpre))
  obtain ⟨a1, b1⟩ := and_e hg
  obtain ⟨a2, b2⟩ := and_e b1
  obtain ⟨w0, w1, rfl⟩ : ∃ w0 w1 : Value, args = #[w0, w1] := by
    have hs : args.size = 2 := by simpa [Cond.value, given_1] using a1
    obtain ⟨L⟩ := args
    match L, hs with
    | [w0, w1], _ => exact ⟨w0, w1, rfl⟩
  have hw := fun d (hd : d ∈ tables_1) => atoms_spec (ws := Jvm.Cond.code x code maxLocals ret :: tables_1) hat d (List.mem_cons_of_mem _ hd)
  obtain ⟨i0, ei0⟩ := is_v a2
  obtain rfl : w0 = (.int i0) := Option.some.inj ei0
  obtain ⟨i1, ei1⟩ := is_v b2
  obtain rfl : w1 = (.int i1) := Option.some.inj ei1
  obtain ⟨q0, t0⟩ := and_e hn
  obtain ⟨q1, t1⟩ := and_e t0
  obtain ⟨q2, t2⟩ := and_e t1
  obtain ⟨q3, t3⟩ := and_e t2
  obtain ⟨q4, t4⟩ := and_e t3
  have q5 := t4
  obtain ⟨v0, ev0⟩ := exa_v q0
  have S0 := Sta.start ev0 (Or.inr ⟨(hw _ (List.mem_of_getElem? (i := 3) rfl)), (hw _ (List.mem_of_getElem? (i := 6) rfl))⟩)
  have E0 := Exa.start ev0 q0
  obtain ⟨v1, ev1⟩ := exa_v q1
  have S1 := Sta.start ev1 (Or.inr ⟨(hw _ (List.mem_of_getElem? (i := 3) rfl)), (hw _ (List.mem_of_getElem? (i := 9) rfl))⟩)
  have E1 := Exa.start ev1 q1
  obtain ⟨v2, ev2⟩ := exa_v q2
  have S2 := Sta.start ev2 (Or.inr ⟨(hw _ (List.mem_of_getElem? (i := 3) rfl)), (hw _ (List.mem_of_getElem? (i := 12) rfl))⟩)
  have E2 := Exa.start ev2 q2
  obtain ⟨v3, ev3⟩ := exa_v q3
  have S3 := Sta.start ev3 (Or.inr ⟨(hw _ (List.mem_of_getElem? (i := 3) rfl)), (hw _ (List.mem_of_getElem? (i := 15) rfl))⟩)
  have E3 := Exa.start ev3 q3
  obtain ⟨v4, ev4⟩ := exa_v q4
  have S4 := Sta.start ev4 (Or.inr ⟨(hw _ (List.mem_of_getElem? (i := 3) rfl)), (hw _ (List.mem_of_getElem? (i := 18) rfl))⟩)
  have E4 := Exa.start ev4 q4
  obtain ⟨v5, ev5⟩ := exa_v q5
  have S5 := Sta.start ev5 (Or.inr ⟨(hw _ (List.mem_of_getElem? (i := 3) rfl)), (hw _ (List.mem_of_getElem? (i := 21) rfl))⟩)
  have E5 := Exa.start ev5 q5
  have P : Pins s s.heap (fun i => [v0, v1, v2, v3, v4, v5].getD i 0) := ⟨S0, E0, S1, E1, S2, E2, S3, E3, S4, E4, S5, E5⟩
  obtain ⟨n, o, h1, h2, h3, _, L, rfl, ⟨rfl, N⟩, hq⟩ := rm0 l s _ hw tables_1 s.heap s.heap.size (Nat.le_refl _) i0 i1 (fun i => [v0, v1, v2, v3, v4, v5].getD i 0) P p e ha hc hk s m _ below hf ((Spec.applies_iff_loose hf).mp happ).1 ⟨rfl, State.Warmed39.refl s, rfl⟩ trivial
  refine ⟨n, _, h1, h2, h3, hpost _ _ _ _ _ _ ⟨Cond.after_iff.mpr rfl, Cond.after_iff.mpr (eq_i res_at (Term.int_eval (1)) rfl), trivial⟩ ⟨hq.1, hq.2.1, (hq.2.2.sift fun y hy => Or.inr (N y hy)).mono (by decide) (by decide)⟩⟩
theorem main_1_1 : Claimed_1_1 := comes_1 fun _ _ _ _ _ _ h hF => ⟨h.1, hF⟩
theorem main_1_2 : Claimed_1_2 := comes_1 fun _ _ _ _ _ _ h hF => ⟨h.2.1, hF⟩
end Jvm.Pilot.@@N@@
namespace Jvm.Pilot.@@N@@
open Jvm Jvm.ClassFile Sem Op Lib Jvm.Free Jvm.Stand Jvm.Pilot.@@N@@.Jvm.D
/-! MADE BY PROGRAM (witnessworld.py) out of the Statement's table words and the real class files: 12 classes; the members and pool entries that the words name. The judged class is class 1, her method 1. -/
namespace start1
open Jvm.ClassFile
def u (s : String) : CpInfo := .utf8 (stringToUtf16 s)
/-- a pool by its gaps: so many unusable entries, then the entry; so many at the end -/
def gap : Nat → List CpInfo → List CpInfo
  | 0, r => r
  | n + 1, r => .unusable :: gap n r
def poolList (es : List (Nat × CpInfo)) (last : Nat) : List CpInfo := es.foldr (fun e r => gap e.1 (e.2 :: r)) (gap last [])
def pool (es : List (Nat × CpInfo)) (last : Nat) : Array CpInfo := ⟨poolList es last⟩
def fileOf (pool : Array CpInfo) (this : Nat) (attrs : Array Attribute := #[]) (ms : Array MethodInfo := #[]) (fl : Nat := 33) (sup : Nat := 0) (ifs : Array Nat := #[]) (fds : Array FieldInfo := #[]) : ClassFile where
  minorVersion := 0
  majorVersion := 65
  constantPool := pool
  accessFlags := fl
  thisClass := this
  superClass := sup
  interfaces := ifs
  fields := fds
  methods := ms
  attributes := attrs
def plain (name : String) (sup : Option ClassId) : Class where
  name := name
  kind := .ordinary
  loader := none
  accessFlags := 33
  super := sup
  interfaces := #[]
  cf := none
  fields := #[]
  methods := #[]
  instanceTypes := #[]
  staticTypes := #[]
  resolved := #[]
  callSites := []
  init := .initialized
  statics := none
  mirror := none

def pool0 : Array CpInfo := pool [(5, u "<init>"), (0, u "()V"), (1, .class_ 10), (1, u "java/lang/Object")] 113

def k0m0 : Method := { name := "<init>", desc := "()V", sig := { parameters := [], returnType := none }, accessFlags := 1, code := none }
/-- java/lang/Object -/
def k0 : Class := { plain "java/lang/Object" none with
  accessFlags := 33
  interfaces := #[]
  cf := some (fileOf pool0 8 #[] #[{ accessFlags := 1, nameIndex := 5, descriptorIndex := 6, attributes := #[] }] 33 0 #[] #[])
  fields := #[]
  methods := #[k0m0]
  instanceTypes := #[]
  staticTypes := #[]
  resolved := Array.replicate 124 none
  statics := none }

def pool1 : Array CpInfo := pool [(2, .class_ 4), (1, u "java/lang/Object"), (0, u "<init>"), (0, u "()V"), (0, .integer 2147483647), (0, .methodref 9 10), (0, .class_ 11), (0, .nameAndType 12 13), (0, u "com/example/run_ledger/runledger/cli/ExitCode"), (0, u "forAnswer"), (0, u "(I)Lcom/example/run_ledger/runledger/cli/ExitCode;"), (0, .fieldref 9 15), (0, .nameAndType 16 17), (0, u "OK"), (0, u "Lcom/example/run_ledger/runledger/cli/ExitCode;"), (0, .fieldref 9 19), (0, .nameAndType 20 17), (0, u "NOTHING_READY"), (0, .fieldref 9 22), (0, .nameAndType 23 17), (0, u "INVALID"), (0, .fieldref 9 25), (0, .nameAndType 26 17), (0, u "REFUSED"), (0, .fieldref 9 28), (0, .nameAndType 29 17), (0, u "BATCH_ENDED"), (0, .fieldref 9 31), (0, .nameAndType 32 17), (0, u "FAILED"), (0, .class_ 34), (0, u "com/example/run_ledger/runledger/cli/ExitCodeForAnswerPinLaw"), (2, u "law"), (0, u "(II)Z")] 3

def k1m0 : Method := { name := "<init>", desc := "()V", sig := { parameters := [], returnType := none }, accessFlags := 2, code := none }
def k1c1 : Code := { maxStack := 2, maxLocals := 7, code := code, exceptionTable := #[], attributes := #[] }
def k1m1 : Method := { name := "law", desc := "(II)Z", sig := { parameters := [.int, .int], returnType := some .boolean }, accessFlags := 9, code := some k1c1 }
/-- com/example/run_ledger/runledger/cli/ExitCodeForAnswerPinLaw -/
def k1 : Class := { plain "com/example/run_ledger/runledger/cli/ExitCodeForAnswerPinLaw" (some 0) with
  accessFlags := 49
  interfaces := #[]
  cf := some (fileOf pool1 33 #[] #[{ accessFlags := 2, nameIndex := 5, descriptorIndex := 6, attributes := #[] }, { accessFlags := 9, nameIndex := 37, descriptorIndex := 38, attributes := #[] }] 49 2 #[] #[])
  fields := #[]
  methods := #[k1m0, k1m1]
  instanceTypes := #[]
  staticTypes := #[]
  resolved := Array.replicate 42 none
  statics := none }

def pool2 : Array CpInfo := pool [(1, .class_ 2), (0, u "java/lang/constant/Constable"), (0, .class_ 4), (0, u "java/lang/Object")] 6

/-- java/lang/constant/Constable -/
def k2 : Class := { plain "java/lang/constant/Constable" (some 0) with
  accessFlags := 1537
  interfaces := #[]
  cf := some (fileOf pool2 1 #[] #[] 1537 3 #[] #[])
  fields := #[]
  methods := #[]
  instanceTypes := #[]
  staticTypes := #[]
  resolved := Array.replicate 11 none
  statics := none }

def pool3 : Array CpInfo := pool [(1, .class_ 2), (0, u "java/lang/Comparable"), (0, .class_ 4), (0, u "java/lang/Object")] 7

/-- java/lang/Comparable -/
def k3 : Class := { plain "java/lang/Comparable" (some 0) with
  accessFlags := 1537
  interfaces := #[]
  cf := some (fileOf pool3 1 #[] #[] 1537 3 #[] #[])
  fields := #[]
  methods := #[]
  instanceTypes := #[]
  staticTypes := #[]
  resolved := Array.replicate 12 none
  statics := none }

def pool4 : Array CpInfo := pool [(1, .class_ 2), (0, u "java/io/Serializable"), (0, .class_ 4), (0, u "java/lang/Object")] 2

/-- java/io/Serializable -/
def k4 : Class := { plain "java/io/Serializable" (some 0) with
  accessFlags := 1537
  interfaces := #[]
  cf := some (fileOf pool4 1 #[] #[] 1537 3 #[] #[])
  fields := #[]
  methods := #[]
  instanceTypes := #[]
  staticTypes := #[]
  resolved := Array.replicate 7 none
  statics := none }

def pool5 : Array CpInfo := pool [(2, .class_ 4), (1, u "java/lang/Enum"), (0, u "name"), (0, u "Ljava/lang/String;"), (2, u "ordinal"), (0, u "I"), (1, .class_ 14), (1, u "java/lang/Object"), (4, u "hash"), (86, .class_ 108), (1, u "java/lang/Enum$EnumDesc"), (2, .class_ 112), (0, u "java/lang/constant/Constable"), (0, .class_ 114), (0, u "java/lang/Comparable"), (0, .class_ 116), (0, u "java/io/Serializable")] 87

/-- java/lang/Enum -/
def k5 : Class := { plain "java/lang/Enum" (some 0) with
  accessFlags := 1057
  interfaces := #[2, 3, 4]
  cf := some (fileOf pool5 2 #[.nestMembers #[106]] #[] 1057 12 #[111, 113, 115] #[{ accessFlags := 18, nameIndex := 5, descriptorIndex := 6, attributes := #[] }, { accessFlags := 18, nameIndex := 9, descriptorIndex := 10, attributes := #[] }, { accessFlags := 2, nameIndex := 19, descriptorIndex := 10, attributes := #[] }])
  fields := #[{ name := "name", type := (.object "java/lang/String"), accessFlags := 18, slot := 0, constantValue := 0 }, { name := "ordinal", type := .int, accessFlags := 18, slot := 1, constantValue := 0 }, { name := "hash", type := .int, accessFlags := 2, slot := 2, constantValue := 0 }]
  methods := #[]
  instanceTypes := #[(.object "java/lang/String"), .int, .int]
  staticTypes := #[]
  resolved := Array.replicate 204 none
  statics := none }

def pool6 : Array CpInfo := pool [(1, .class_ 2), (0, u "com/example/run_ledger/runledger/cli/ExitCode"), (0, .fieldref 1 4), (0, .nameAndType 5 6), (0, u "OK"), (0, u "Lcom/example/run_ledger/runledger/cli/ExitCode;"), (0, .fieldref 1 8), (0, .nameAndType 9 6), (0, u "FAILED"), (0, .fieldref 1 11), (0, .nameAndType 12 6), (0, u "INVALID"), (0, .fieldref 1 14), (0, .nameAndType 15 6), (0, u "NOTHING_READY"), (0, .fieldref 1 17), (0, .nameAndType 18 6), (0, u "BATCH_ENDED"), (0, .fieldref 1 20), (0, .nameAndType 21 6), (0, u "REFUSED"), (2, u "$VALUES"), (0, u "[Lcom/example/run_ledger/runledger/cli/ExitCode;"), (6, .class_ 34), (1, u "java/lang/Enum"), (8, u "status"), (0, u "I"), (21, u "forAnswer"), (0, u "(I)Lcom/example/run_ledger/runledger/cli/ExitCode;")] 6

def k6c0 : Code := { maxStack := 1, maxLocals := 1, code := prog_13_method_5_code, exceptionTable := #[], attributes := #[] }
def k6m0 : Method := { name := "forAnswer", desc := "(I)Lcom/example/run_ledger/runledger/cli/ExitCode;", sig := { parameters := [.int], returnType := some (.object "com/example/run_ledger/runledger/cli/ExitCode") }, accessFlags := 8, code := some k6c0 }
/-- com/example/run_ledger/runledger/cli/ExitCode -/
def k6 : Class := { plain "com/example/run_ledger/runledger/cli/ExitCode" (some 5) with
  accessFlags := 16432
  interfaces := #[]
  cf := some (fileOf pool6 1 #[] #[{ accessFlags := 8, nameIndex := 66, descriptorIndex := 67, attributes := #[] }] 16432 32 #[] #[{ accessFlags := 16409, nameIndex := 5, descriptorIndex := 6, attributes := #[] }, { accessFlags := 16409, nameIndex := 9, descriptorIndex := 6, attributes := #[] }, { accessFlags := 16409, nameIndex := 12, descriptorIndex := 6, attributes := #[] }, { accessFlags := 16409, nameIndex := 15, descriptorIndex := 6, attributes := #[] }, { accessFlags := 16409, nameIndex := 18, descriptorIndex := 6, attributes := #[] }, { accessFlags := 16409, nameIndex := 21, descriptorIndex := 6, attributes := #[] }, { accessFlags := 18, nameIndex := 43, descriptorIndex := 44, attributes := #[] }, { accessFlags := 4122, nameIndex := 24, descriptorIndex := 25, attributes := #[] }])
  fields := #[{ name := "OK", type := (.object "com/example/run_ledger/runledger/cli/ExitCode"), accessFlags := 16409, slot := 0, constantValue := 0 }, { name := "FAILED", type := (.object "com/example/run_ledger/runledger/cli/ExitCode"), accessFlags := 16409, slot := 1, constantValue := 0 }, { name := "INVALID", type := (.object "com/example/run_ledger/runledger/cli/ExitCode"), accessFlags := 16409, slot := 2, constantValue := 0 }, { name := "NOTHING_READY", type := (.object "com/example/run_ledger/runledger/cli/ExitCode"), accessFlags := 16409, slot := 3, constantValue := 0 }, { name := "BATCH_ENDED", type := (.object "com/example/run_ledger/runledger/cli/ExitCode"), accessFlags := 16409, slot := 4, constantValue := 0 }, { name := "REFUSED", type := (.object "com/example/run_ledger/runledger/cli/ExitCode"), accessFlags := 16409, slot := 5, constantValue := 0 }, { name := "status", type := .int, accessFlags := 18, slot := 3, constantValue := 0 }, { name := "$VALUES", type := (.array (.object "com/example/run_ledger/runledger/cli/ExitCode")), accessFlags := 4122, slot := 6, constantValue := 0 }]
  methods := #[k6m0]
  instanceTypes := #[(.object "java/lang/String"), .int, .int, .int]
  staticTypes := #[(.object "com/example/run_ledger/runledger/cli/ExitCode"), (.object "com/example/run_ledger/runledger/cli/ExitCode"), (.object "com/example/run_ledger/runledger/cli/ExitCode"), (.object "com/example/run_ledger/runledger/cli/ExitCode"), (.object "com/example/run_ledger/runledger/cli/ExitCode"), (.object "com/example/run_ledger/runledger/cli/ExitCode"), (.array (.object "com/example/run_ledger/runledger/cli/ExitCode"))]
  resolved := Array.replicate 74 none
  statics := some 0 }

def pool7 : Array CpInfo := pool [(1, u "java/lang/Cloneable"), (0, .class_ 1), (0, u "java/lang/Object"), (0, .class_ 3)] 3

/-- java/lang/Cloneable -/
def k7 : Class := { plain "java/lang/Cloneable" (some 0) with
  accessFlags := 1537
  interfaces := #[]
  cf := some (fileOf pool7 2 #[] #[] 1537 4 #[] #[])
  fields := #[]
  methods := #[]
  instanceTypes := #[]
  staticTypes := #[]
  resolved := Array.replicate 8 none
  statics := none }

/-- the primitive byte -/
def k8 : Class := { plain "byte" none with kind := .primitive 'B', accessFlags := 0x411 }
/-- [B -/
def k9 : Class := { plain "[B" (some 0) with kind := .array 8 .byte, interfaces := #[7, 4], accessFlags := 1041 }

/-- the primitive int -/
def k10 : Class := { plain "int" none with kind := .primitive 'I', accessFlags := 0x411 }
/-- [I -/
def k11 : Class := { plain "[I" (some 0) with kind := .array 10 .int, interfaces := #[7, 4], accessFlags := 1041 }

def heap : Heap := #[{ cls := 6, slots := #[.ref 2, .ref 1, .ref 3, .ref 5, .ref 6, .ref 4, .null], vm := .statics 6 },
  { cls := 6, slots := #[.null, .int 0, .int 0, .int 0], vm := .none },
  { cls := 6, slots := #[.null, .int 0, .int 0, .int 0], vm := .none },
  { cls := 6, slots := #[.null, .int 0, .int 0, .int 0], vm := .none },
  { cls := 6, slots := #[.null, .int 0, .int 0, .int 0], vm := .none },
  { cls := 6, slots := #[.null, .int 0, .int 0, .int 0], vm := .none },
  { cls := 6, slots := #[.null, .int 0, .int 0, .int 0], vm := .none }]
def classes : Array Class := #[k0, k1, k2, k3, k4, k5, k6, k7, k8, k9, k10, k11]
def interned : List (Array UInt16 × Addr) := []
def slotsUsed : Nat := 31
def theMethod : MethodId := ⟨1, 1⟩
def args0 : Array Value := #[.int 5, .int 7]
def aboutOver (below : List Frame) : State where
  vm := { classes := classes, interned := interned.toArray }
  heap := heap
  slotsUsed := slotsUsed
  threads := #[{ frames := .invoking theMethod args0 :: below }]
def below0 : List Frame := [.native { method := ⟨0, 0⟩, args := #[] }]
def about1 : State := aboutOver below0
def p0 : Program := .bare "" "" ""
def e0 : Env := launch0.env 0 0 0
theorem w_frames : about1.frames = Frame.invoking theMethod args0 :: below0 := rfl
set_option maxRecDepth 65536 in
theorem w_args : argsFit about1.vm theMethod args0 = true := by decide +kernel
set_option maxRecDepth 65536 in
theorem w_heap : heapFits about1 = true := by decide +kernel
set_option maxRecDepth 65536 in
theorem w_runnable : about1.curStatus? = some .runnable := by decide +kernel
set_option maxRecDepth 65536 in
theorem w_alone : about1.alone = true := by decide +kernel
set_option maxRecDepth 65536 in
theorem w_named : about1.methodNamed? x = some theMethod := by decide +kernel
set_option maxRecDepth 65536 in
theorem w_hears : about1.hears theMethod below0 = true := by decide +kernel
set_option maxRecDepth 65536 in
theorem w_ripe : about1.ripe theMethod args0 below0 = true := by decide +kernel
theorem w_running : about1.status = .running := rfl
set_option maxRecDepth 65536 in
theorem w_room : about1.hasRoom e0.platform room_1 = true :=
  launch0.hasRoom_least _ room_1 (by decide +kernel) (by decide +kernel) (by decide +kernel) (by decide +kernel) (by decide +kernel) (by decide +kernel)
theorem allAtoms_all (ts : List Jvm.Cond) (a : Array Jvm.Value) (st : Jvm.State) : (allAtoms ts).before a st = ts.all (fun c => c.before a st) := by
  induction ts with
  | nil => rfl
  | cons c t ih =>
    show (Jvm.Cond.and c (allAtoms t)).before a st = _
    rw [Jvm.Cond.before_and, ih, List.all_cons]
def words1 : List Jvm.Cond := Jvm.Cond.code x code maxLocals ret :: tables_1
/-- a 'code' word, met by the world's own term for the bytes: nothing is compared byte by byte -/
theorem code_word {y : MethodName} {bytes : ByteArray} {mx : Nat} {rt : Option FieldType} {a : Array Value} {s : State} {m : MethodId} {meth : Method} {c : Code} (h1 : s.methodNamed? y = some m) (h2 : s.vm.method? m = some meth) (h3 : meth.code = some c) (h4 : c.code = bytes)
    (h5 : (c.maxLocals == mx && c.exceptionTable.isEmpty && decide (c.maxStack ≤ mostOperands) && decide (meth.sig.returnType = rt) && !meth.locks && decide (parseMethodDescriptor y.desc = some meth.sig)) = true) : (Jvm.Cond.code y bytes mx rt).before a s = true := by
  simp only [Bool.and_eq_true, beq_iff_eq, Bool.not_eq_true', decide_eq_true_eq] at h5
  obtain ⟨⟨⟨⟨⟨g1, g2⟩, g3⟩, g4⟩, g5⟩, g6⟩ := h5
  simp [Cond.before, Cond.holds, Cond.value, h1, h2, h3, h4, g1, g2, g3, g4, g5, g6]
def isCode : Jvm.Cond → Bool
  | .code _ _ _ _ => true
  | _ => false
theorem all_split {L : List Jvm.Cond} {P : Jvm.Cond → Bool} (h1 : L.all (fun c => isCode c || P c) = true) (h2 : ∀ c ∈ L.filter isCode, P c = true) : L.all P = true := by
  refine List.all_eq_true.mpr fun c hc => ?_
  have h := List.all_eq_true.mp h1 c hc
  rcases Bool.eq_false_or_eq_true (isCode c) with hi | hi
  · exact h2 c (List.mem_filter.mpr ⟨hc, hi⟩)
  · simpa [hi] using h
set_option maxRecDepth 65536 in
theorem w_c0 : (Jvm.Cond.code x code maxLocals ret).before args0 about1 = true := code_word (m := ⟨1, 1⟩) (meth := k1m1) (c := k1c1) (by decide +kernel) rfl rfl rfl (by decide +kernel)
set_option maxRecDepth 65536 in
theorem w_c1 : (Jvm.Cond.code ({ cls := "com/example/run_ledger/runledger/cli/ExitCode", name := "forAnswer", desc := "(I)Lcom/example/run_ledger/runledger/cli/ExitCode;" } : Jvm.MethodName) prog_13_method_5_code (1 : Nat) (Option.some (Jvm.ClassFile.FieldType.object "com/example/run_ledger/runledger/cli/ExitCode"))).before args0 about1 = true := code_word (m := ⟨6, 0⟩) (meth := k6m0) (c := k6c0) (by decide +kernel) rfl rfl rfl (by decide +kernel)
def codes1 : List Jvm.Cond := [Jvm.Cond.code x code maxLocals ret, Jvm.Cond.code ({ cls := "com/example/run_ledger/runledger/cli/ExitCode", name := "forAnswer", desc := "(I)Lcom/example/run_ledger/runledger/cli/ExitCode;" } : Jvm.MethodName) prog_13_method_5_code (1 : Nat) (Option.some (Jvm.ClassFile.FieldType.object "com/example/run_ledger/runledger/cli/ExitCode"))]
set_option maxRecDepth 65536 in
theorem codes_eq : words1.filter isCode = codes1 := rfl
theorem w_codes : ∀ c ∈ words1.filter isCode, c.before args0 about1 = true := by
  rw [codes_eq]
  intro c hc
  simp only [codes1, List.mem_cons, List.not_mem_nil, or_false] at hc
  rcases hc with rfl | rfl
  · exact w_c0
  · exact w_c1
set_option maxRecDepth 65536 in
theorem w_t1 : words1.all (fun c => isCode c || c.before args0 about1) = true := by decide +kernel
theorem w_tables : (allAtoms (Jvm.Cond.code x code maxLocals ret :: tables_1)).before args0 about1 = true := by
  rw [allAtoms_all]
  show words1.all (fun c => c.before args0 about1) = true
  refine all_split ?_ w_codes
  rw [w_t1]
set_option maxRecDepth 65536 in
theorem w_case : (Jvm.Cond.and given_1 narrow_1).before args0 about1 = true := by decide +kernel
theorem w_applies : (headSpec (Jvm.Cond.code x code maxLocals ret :: tables_1) room_1).applies x e0.platform about1 = true :=
  (Spec.applies_iff w_frames).mpr ⟨w_running, w_runnable, w_alone, w_named, w_hears, w_ripe, w_room, w_tables⟩
theorem atStart : AtStart classFile x code maxLocals ret World_1 tables_1 room_1 Calls_1 rest_1 Pre_1 launch0 p0 e0 about1 theMethod args0 below0 :=
  ⟨lists_1, trivial, launch0.admits_env _ _ _, launch0.least_env, fairChoices_fair.cas, fairChoices_fair.clock, w_frames, w_args, w_heap, w_applies, trivial, trivial, w_case⟩
end start1
theorem witness_1 : WitnessClaimed_1 := ⟨start1.p0, start1.e0, start1.about1, start1.theMethod, start1.args0, start1.below0, start1.atStart⟩
end Jvm.Pilot.@@N@@
