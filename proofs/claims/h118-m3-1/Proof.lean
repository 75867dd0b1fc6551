import JvmDerived
import JvmDerived.Pilot.@@N@@Statement
import JvmDerived.Pilot.@@N@@Code
set_option linter.unusedVariables false
set_option linter.unusedSimpArgs false
namespace Jvm.Pilot.@@N@@
open Jvm Jvm.ClassFile Sem Op Lib Jvm.Free Jvm.Stand Jvm.LawKit Jvm.RoadKit Bundle Jvm.Pilot.@@N@@.Jvm.D
/-- two roads that come together: the rest is shown once, for every state and value with which they come -/
theorem own_join {p : Program} {l : Launch} {e : Env} {R : Room} {s : State} {m : MethodId} {args : Array Value} {below : List Frame} {meth : Method} {c : Code} {T : State} {locs : List Loc} {cells slots : Nat} {A : State} {P : State → Outcome → Prop}
    (X : Stand p l e R s m args below meth c T locs cells slots) {ι : Type} (Φ : ι → State → Prop) (B : ι → JFrame)
    (rest : ∀ i T', Stand p l e R s m args below meth c T' locs cells slots → Φ i T' → ∃ s₂ o, Steps p.tables e below (T'.setTop (B i)) s₂ ∧ P s₂ o)
    (come : (∀ i T', Stand p l e R s m args below meth c T' locs cells slots → Φ i T' → ∃ s₂ o, Steps p.tables e below (T'.setTop (B i)) s₂ ∧ P s₂ o) → ∃ s₂ o, Steps p.tables e below A s₂ ∧ P s₂ o) : ∃ s₂ o, Steps p.tables e below A s₂ ∧ P s₂ o := come rest
theorem own_joinH {p : Program} {l : Launch} {e : Env} {R : Room} {s : State} {m : MethodId} {args : Array Value} {below : List Frame} {meth : Method} {c : Code} {T : State} {locs : List Loc} {cells slots n0 : Nat} {A : State} {P : State → Outcome → Prop}
    (X : Stand p l e R s m args below meth c T locs cells slots) (N : Fr n0 locs) {ι : Type} (cells' slots' : Nat) (Φ : ι → Heap → Prop) (B : ι → JFrame)
    (rest : ∀ i T' locs', Stand p l e R s m args below meth c T' locs' cells' slots' → Fr n0 locs' → Φ i T'.heap → ∃ s₂ o, Steps p.tables e below (T'.setTop (B i)) s₂ ∧ P s₂ o)
    (come : (∀ i T' locs', Stand p l e R s m args below meth c T' locs' cells' slots' → Fr n0 locs' → Φ i T'.heap → ∃ s₂ o, Steps p.tables e below (T'.setTop (B i)) s₂ ∧ P s₂ o) → ∃ s₂ o, Steps p.tables e below A s₂ ∧ P s₂ o) : ∃ s₂ o, Steps p.tables e below A s₂ ∧ P s₂ o := come rest
theorem own_mono {p : Program} {l : Launch} {e : Env} {R : Room} {s : State} {m : MethodId} {args : Array Value} {below : List Frame} {meth : Method} {c : Code} {T : State} {locs : List Loc} {cells slots cells' slots' : Nat}
    (X : Stand p l e R s m args below meth c T locs cells slots) (h1 : cells ≤ cells') (h2 : slots ≤ slots') : Stand p l e R s m args below meth c T locs cells' slots' := { X with same := X.same.mono h1 h2 }
theorem own_sta_keep {Z : State} {h h' : Heap} {C n d : String} {v : Value} {ws : List Addr} (F : Sta Z h C n d v) (K : Keep h h' ws) (q : ∀ x ∈ ws, ∀ c : Cell, h[x]? = some c → c.vm.isStatics = false) : Sta Z h' C n d v := by
  obtain ⟨cf, i, k, f, st, cell, h1, h2, h3, h4, h5, h6, h7⟩ := F
  refine ⟨cf, i, k, f, st, cell, h1, h2, h3, h4, K.2.1 st cell h5 fun hm => ?_, h6, h7⟩
  rw [q st hm cell h5] at h6
  cases h6
theorem own_plain_E {Z : State} {h : Heap} {a : Addr} {C : String} (F : Exa Z h a C) : ∀ c : Cell, h[a]? = some c → c.vm.isStatics = false := by
  obtain ⟨cell, k, h1, h2, h3, h4, h5⟩ := F
  intro c hc
  cases h1.symm.trans hc
  exact h4
theorem own_plain_V {Z : State} {h : Heap} {a : Addr} {k : ClassId} {ty : FieldType} {n : Int32} {vs : List Value} {d : Value} (F : Arv Z h a k ty n vs d) : ∀ c : Cell, h[a]? = some c → c.vm.isStatics = false := by
  obtain ⟨cell, A, -⟩ := F
  intro c hc
  cases A.1.symm.trans hc
  exact A.plain
/-- a stretch of the road, then the rest -/
theorem own_go {tb : Tables} {e : Env} {below : List Frame} {A B : State} {P : State → Outcome → Prop} (h : ∀ t, Steps tb e below B t → Steps tb e below A t) (k : ∃ s₂ o, Steps tb e below B s₂ ∧ P s₂ o) : ∃ s₂ o, Steps tb e below A s₂ ∧ P s₂ o := by
  obtain ⟨s₂, o, h1, h2⟩ := k
  exact ⟨s₂, o, h s₂ h1, h2⟩
theorem own_eqI {args : Array Value} {first s : State} {o : Option Outcome} {idx : List Nat} {t : Term} {k : Int32} (h : (Jvm.Cond.eq t (.int k)).value args first o s idx = some true) : t.eval args first o idx s = some (.int k) := by
  simp only [Jvm.Cond.value, Term.eval] at h
  cases ht : t.eval args first o idx s with
  | none => simp [ht] at h
  | some x => cases x <;> simp [ht] at h ⊢; exact h
theorem own_eqJ {args : Array Value} {first s : State} {o : Option Outcome} {idx : List Nat} {t : Term} {k : Int64} (h : (Jvm.Cond.eq t (.long k)).value args first o s idx = some true) : t.eval args first o idx s = some (.long k) := by
  simp only [Jvm.Cond.value, Term.eval] at h
  cases ht : t.eval args first o idx s with
  | none => simp [ht] at h
  | some x => cases x <;> simp [ht] at h ⊢; exact h
theorem own_eqR {args : Array Value} {first s : State} {o : Option Outcome} {idx : List Nat} {t u : Term} {a : Addr} (h : (Jvm.Cond.eq t u).value args first o s idx = some true) (hu : u.eval args first o idx s = some (.ref a)) : t.eval args first o idx s = some (.ref a) := by
  simp only [Jvm.Cond.value] at h
  cases ht : t.eval args first o idx s with
  | none => simp [ht] at h
  | some x => cases x <;> simp [ht, hu] at h ⊢; exact h
theorem ef_1 (m : MethodId) (r0 : Addr) : entryFrame m #[(.ref r0)] 1 = mkF m 0 #[.val (.ref r0)] [] := by first | (simp [entryFrame, mkF, argsToLocals, Value.category]; done) | rfl
theorem pn_1 : plainName "com/example/rameau/rameau/model/Privilege$Target" = true := by first | (simp [plainName, overriddenIn]; done) | decide +kernel
abbrev LS_R (a0 : Addr) : Array Slot := #[.val (.ref a0)]
theorem d1_0 : decode prog_20_method_5_code 0 = .ok (.aload_n 0, 1) := by decide +kernel
theorem d1_1 : decode prog_20_method_5_code 1 = .ok (.getstatic 3, 3) := by decide +kernel
theorem d1_4 : decode prog_20_method_5_code 4 = .ok (.if_acmp .ne 9, 3) := by decide +kernel
theorem d1_7 : decode prog_20_method_5_code 7 = .ok (.getstatic 45, 3) := by decide +kernel
theorem d1_10 : decode prog_20_method_5_code 10 = .ok (.goto 6, 3) := by decide +kernel
theorem d1_16 : decode prog_20_method_5_code 16 = .ok (.areturn, 1) := by decide +kernel
theorem d1_13 : decode prog_20_method_5_code 13 = .ok (.getstatic 51, 3) := by decide +kernel
def Q1 (Z : State) (r0 : Addr) (wG : Addr) (wA : Addr) (wS : Addr) (h0 : Heap) (n0 : Nat) (v : Option Value) (h : Heap) (L : List Loc) : Prop := v = some (.ref (if r0 = wG then wA else wS)) ∧ Fr n0 L ∧ h = h0
set_option maxRecDepth 65536 in
set_option maxHeartbeats 40000000 in
theorem rm1 (l : Launch) (Z : State) (a0 : Array Value) (hw : ∀ d ∈ tables_1, d.before a0 Z = true) (ws : List Jvm.Cond) (r0 : Addr) (wG : Addr) (wA : Addr) (wS : Addr) (h0 : Heap) (n0 : Nat) (Z0 : n0 ≤ h0.size) (S_GROUP : Sta Z h0 "com/example/rameau/rameau/model/Privilege$Target" "GROUP" "Lcom/example/rameau/rameau/model/Privilege$Target;" (.ref wG)) (S_ADMIN : Sta Z h0 "com/example/rameau/rameau/model/Privilege" "ADMIN" "Lcom/example/rameau/rameau/model/Privilege;" (.ref wA)) (S_STEM : Sta Z h0 "com/example/rameau/rameau/model/Privilege" "STEM" "Lcom/example/rameau/rameau/model/Privilege;" (.ref wS)) :
    MetFree l (⟨"com/example/rameau/rameau/model/Privilege$Target", "granting", "()Lcom/example/rameau/rameau/model/Privilege;"⟩ : MethodName) (head1 (Jvm.Cond.code (⟨"com/example/rameau/rameau/model/Privilege$Target", "granting", "()Lcom/example/rameau/rameau/model/Privilege;"⟩ : MethodName) prog_20_method_5_code 1 (some (.object "com/example/rameau/rameau/model/Privilege")) :: ws) ({ frames := 0, cells := 0, slots := 0, locals := 0 } : Room)) (fun a U => a = #[(.ref r0)] ∧ Z.Warmed39 U.vm ∧ U.heap = h0) (fun _ _ _ _ _ => True) (fun _ U o U' => ∃ v L, o = .returned v ∧ Q1 Z r0 wG wA wS h0 n0 v U'.heap L ∧ FrameEnd U o U' L ({ frames := 0, cells := 0, slots := 0, locals := 0 } : Room).cells ({ frames := 0, cells := 0, slots := 0, locals := 0 } : Room).slots) := by
  refine MetFree.of_bodySF (plainFor_of_name pn_1) hisR ?_
  intro p e s m args below meth c s₁ Bd hml0 hP hK
  obtain ⟨rfl, hZ, hh⟩ := hP
  have hx := Bd.exec
  have hby := Bd.bytes
  have hml : c.maxLocals = 1 := hml0
  have hown : s.vm.findClass "com/example/rameau/rameau/model/Privilege$Target" = some m.cls := findClass_of_methodNamed Bd.named
  have hnm := (name_of_methodNamed Bd.named Bd.method).1
  have X0 : Stand p l e ({ frames := 0, cells := 0, slots := 0, locals := 0 } : Room) s m #[(.ref r0)] below meth c s₁ [] 0 0 := Stand.of_body Bd
  have e0 : s₁.heap = h0 := by rw [← hh, Bd.state]; rfl
  have N0 := Fr.nil n0
  refine own_go (B := s₁.setTop (mkF m 0 (LS_R r0) [])) (fun t k => castTop (ef_1 m r0) k) ?_
  refine own_go (B := s₁.setTop (mkF m 1 (LS_R r0) [(.ref r0)])) (fun t k => ?_) ?_
  · show Steps p.tables e below (s₁.setTop (mkF m 0 (LS_R r0) [])) _
    refine XS.aloadN X0.here hx rfl (hb hby d1_0) rfl rfl ?_
    exact k
  obtain ⟨T1, X1, e1, st1⟩ := getS2 X0 hx hZ hown (host := "") (Or.inl (hw _ (List.mem_of_getElem? (i := 8) rfl))) Via.refl e0 S_GROUP (g := (mkF m 1 (LS_R r0) [(.ref r0)])) rfl (hb hby d1_1)
  refine own_go (B := T1.setTop (mkF m 4 (LS_R r0) [(.ref wG), (.ref r0)])) (fun t k => st1 _ k) ?_
  by_cases hc4_2 : r0 = wG
  · refine own_go (B := T1.setTop (mkF m 7 (LS_R r0) [])) (fun t k => ?_) ?_
    · show Steps p.tables e below (T1.setTop (mkF m 4 (LS_R r0) [(.ref wG), (.ref r0)])) _
      refine Jvm.RoadKit.acmp (g := (mkF m 4 (LS_R r0) [(.ref wG), (.ref r0)])) X1 hx rfl rfl rfl (pc0 := 4) (pc' := 7) (same := true) rfl (hb hby d1_4) rfl (decide_eq_true (congrArg Value.ref hc4_2)) (by decide) (by decide) ?_
      exact k
    obtain ⟨T3, X3, e3, st3⟩ := getS2 X1 hx hZ hown (host := "") (Or.inl (hw _ (List.mem_of_getElem? (i := 9) rfl))) Via.refl e1 S_ADMIN (g := (mkF m 7 (LS_R r0) [])) rfl (hb hby d1_7)
    refine own_go (B := T3.setTop (mkF m 10 (LS_R r0) [(.ref wA)])) (fun t k => st3 _ k) ?_
    refine own_go (B := T3.setTop (mkF m 16 (LS_R r0) [(.ref wA)])) (fun t k => ?_) ?_
    · show Steps p.tables e below (T3.setTop (mkF m 10 (LS_R r0) [(.ref wA)])) _
      refine XS.goto X3.here hx rfl (pc0 := 10) (pc' := 16) rfl (hb hby d1_10) (by decide) (by decide) ?_
      exact k
    obtain ⟨fs, hr, hrun, hended, hW, hsame⟩ := X3.leave (v := some (.ref wA)) (fun h => by rw [Bd.returns] at h; cases h)
    refine ⟨_, _, ?_, hrun, hended, _, _, rfl, ?_, ⟨_, rfl⟩, hW, hsame.mono (by decide) (by decide)⟩
    · show Steps p.tables e below (T3.setTop (mkF m 16 (LS_R r0) [(.ref wA)])) _
      exact retOut X3 hx Bd.returns rfl (Or.inr (Or.inr (Or.inr (Or.inr ⟨rfl, rfl, rfl⟩)))) (hb hby d1_16) hr
    · show Q1 Z r0 wG wA wS h0 n0 _ T3.heap _
      rw [e3]
      exact ⟨by rw [if_pos hc4_2], N0, rfl⟩
  · refine own_go (B := T1.setTop (mkF m 13 (LS_R r0) [])) (fun t k => ?_) ?_
    · show Steps p.tables e below (T1.setTop (mkF m 4 (LS_R r0) [(.ref wG), (.ref r0)])) _
      refine Jvm.RoadKit.acmp (g := (mkF m 4 (LS_R r0) [(.ref wG), (.ref r0)])) X1 hx rfl rfl rfl (pc0 := 4) (pc' := 13) (same := false) rfl (hb hby d1_4) rfl (decide_eq_false fun q => hc4_2 (Value.ref.inj q)) (by decide) (by decide) ?_
      exact k
    obtain ⟨T4, X4, e4, st4⟩ := getS2 X1 hx hZ hown (host := "") (Or.inl (hw _ (List.mem_of_getElem? (i := 27) rfl))) Via.refl e1 S_STEM (g := (mkF m 13 (LS_R r0) [])) rfl (hb hby d1_13)
    refine own_go (B := T4.setTop (mkF m 16 (LS_R r0) [(.ref wS)])) (fun t k => st4 _ k) ?_
    obtain ⟨fs, hr, hrun, hended, hW, hsame⟩ := X4.leave (v := some (.ref wS)) (fun h => by rw [Bd.returns] at h; cases h)
    refine ⟨_, _, ?_, hrun, hended, _, _, rfl, ?_, ⟨_, rfl⟩, hW, hsame.mono (by decide) (by decide)⟩
    · show Steps p.tables e below (T4.setTop (mkF m 16 (LS_R r0) [(.ref wS)])) _
      exact retOut X4 hx Bd.returns rfl (Or.inr (Or.inr (Or.inr (Or.inr ⟨rfl, rfl, rfl⟩)))) (hb hby d1_16) hr
    · show Q1 Z r0 wG wA wS h0 n0 _ T4.heap _
      rw [e4]
      exact ⟨by rw [if_neg hc4_2], N0, rfl⟩
theorem ef_3 (m : MethodId) (r0 : Addr) : entryFrame m #[(.ref r0)] 1 = mkF m 0 #[.val (.ref r0)] [] := by first | (simp [entryFrame, mkF, argsToLocals, Value.category]; done) | rfl
theorem pn_3 : plainName "com/example/rameau/rameau/model/Privilege$Target" = true := by first | (simp [plainName, overriddenIn]; done) | decide +kernel
theorem d3_0 : decode prog_20_method_6_code 0 = .ok (.aload_n 0, 1) := by decide +kernel
theorem d3_1 : decode prog_20_method_6_code 1 = .ok (.getstatic 3, 3) := by decide +kernel
theorem d3_4 : decode prog_20_method_6_code 4 = .ok (.if_acmp .ne 9, 3) := by decide +kernel
theorem d3_7 : decode prog_20_method_6_code 7 = .ok (.getstatic 7, 3) := by decide +kernel
theorem d3_10 : decode prog_20_method_6_code 10 = .ok (.goto 6, 3) := by decide +kernel
theorem d3_16 : decode prog_20_method_6_code 16 = .ok (.areturn, 1) := by decide +kernel
theorem d3_13 : decode prog_20_method_6_code 13 = .ok (.getstatic 3, 3) := by decide +kernel
def Q3 (Z : State) (r0 : Addr) (wG : Addr) (wF : Addr) (h0 : Heap) (n0 : Nat) (v : Option Value) (h : Heap) (L : List Loc) : Prop := v = some (.ref (if r0 = wG then wF else wG)) ∧ Fr n0 L ∧ h = h0
set_option maxRecDepth 65536 in
set_option maxHeartbeats 40000000 in
theorem rm3 (l : Launch) (Z : State) (a0 : Array Value) (hw : ∀ d ∈ tables_1, d.before a0 Z = true) (ws : List Jvm.Cond) (r0 : Addr) (wG : Addr) (wF : Addr) (h0 : Heap) (n0 : Nat) (Z0 : n0 ≤ h0.size) (S_GROUP : Sta Z h0 "com/example/rameau/rameau/model/Privilege$Target" "GROUP" "Lcom/example/rameau/rameau/model/Privilege$Target;" (.ref wG)) (S_FOLDER : Sta Z h0 "com/example/rameau/rameau/model/Privilege$Target" "FOLDER" "Lcom/example/rameau/rameau/model/Privilege$Target;" (.ref wF)) :
    MetFree l (⟨"com/example/rameau/rameau/model/Privilege$Target", "other", "()Lcom/example/rameau/rameau/model/Privilege$Target;"⟩ : MethodName) (head1 (Jvm.Cond.code (⟨"com/example/rameau/rameau/model/Privilege$Target", "other", "()Lcom/example/rameau/rameau/model/Privilege$Target;"⟩ : MethodName) prog_20_method_6_code 1 (some (.object "com/example/rameau/rameau/model/Privilege$Target")) :: ws) ({ frames := 0, cells := 0, slots := 0, locals := 0 } : Room)) (fun a U => a = #[(.ref r0)] ∧ Z.Warmed39 U.vm ∧ U.heap = h0) (fun _ _ _ _ _ => True) (fun _ U o U' => ∃ v L, o = .returned v ∧ Q3 Z r0 wG wF h0 n0 v U'.heap L ∧ FrameEnd U o U' L ({ frames := 0, cells := 0, slots := 0, locals := 0 } : Room).cells ({ frames := 0, cells := 0, slots := 0, locals := 0 } : Room).slots) := by
  refine MetFree.of_bodySF (plainFor_of_name pn_3) hisR ?_
  intro p e s m args below meth c s₁ Bd hml0 hP hK
  obtain ⟨rfl, hZ, hh⟩ := hP
  have hx := Bd.exec
  have hby := Bd.bytes
  have hml : c.maxLocals = 1 := hml0
  have hown : s.vm.findClass "com/example/rameau/rameau/model/Privilege$Target" = some m.cls := findClass_of_methodNamed Bd.named
  have hnm := (name_of_methodNamed Bd.named Bd.method).1
  have X0 : Stand p l e ({ frames := 0, cells := 0, slots := 0, locals := 0 } : Room) s m #[(.ref r0)] below meth c s₁ [] 0 0 := Stand.of_body Bd
  have e0 : s₁.heap = h0 := by rw [← hh, Bd.state]; rfl
  have N0 := Fr.nil n0
  refine own_go (B := s₁.setTop (mkF m 0 (LS_R r0) [])) (fun t k => castTop (ef_3 m r0) k) ?_
  refine own_go (B := s₁.setTop (mkF m 1 (LS_R r0) [(.ref r0)])) (fun t k => ?_) ?_
  · show Steps p.tables e below (s₁.setTop (mkF m 0 (LS_R r0) [])) _
    refine XS.aloadN X0.here hx rfl (hb hby d3_0) rfl rfl ?_
    exact k
  obtain ⟨T1, X1, e1, st1⟩ := getS2 X0 hx hZ hown (host := "") (Or.inl (hw _ (List.mem_of_getElem? (i := 8) rfl))) Via.refl e0 S_GROUP (g := (mkF m 1 (LS_R r0) [(.ref r0)])) rfl (hb hby d3_1)
  refine own_go (B := T1.setTop (mkF m 4 (LS_R r0) [(.ref wG), (.ref r0)])) (fun t k => st1 _ k) ?_
  by_cases hc4_2 : r0 = wG
  · refine own_go (B := T1.setTop (mkF m 7 (LS_R r0) [])) (fun t k => ?_) ?_
    · show Steps p.tables e below (T1.setTop (mkF m 4 (LS_R r0) [(.ref wG), (.ref r0)])) _
      refine Jvm.RoadKit.acmp (g := (mkF m 4 (LS_R r0) [(.ref wG), (.ref r0)])) X1 hx rfl rfl rfl (pc0 := 4) (pc' := 7) (same := true) rfl (hb hby d3_4) rfl (decide_eq_true (congrArg Value.ref hc4_2)) (by decide) (by decide) ?_
      exact k
    obtain ⟨T3, X3, e3, st3⟩ := getS2 X1 hx hZ hown (host := "") (Or.inl (hw _ (List.mem_of_getElem? (i := 25) rfl))) Via.refl e1 S_FOLDER (g := (mkF m 7 (LS_R r0) [])) rfl (hb hby d3_7)
    refine own_go (B := T3.setTop (mkF m 10 (LS_R r0) [(.ref wF)])) (fun t k => st3 _ k) ?_
    refine own_go (B := T3.setTop (mkF m 16 (LS_R r0) [(.ref wF)])) (fun t k => ?_) ?_
    · show Steps p.tables e below (T3.setTop (mkF m 10 (LS_R r0) [(.ref wF)])) _
      refine XS.goto X3.here hx rfl (pc0 := 10) (pc' := 16) rfl (hb hby d3_10) (by decide) (by decide) ?_
      exact k
    obtain ⟨fs, hr, hrun, hended, hW, hsame⟩ := X3.leave (v := some (.ref wF)) (fun h => by rw [Bd.returns] at h; cases h)
    refine ⟨_, _, ?_, hrun, hended, _, _, rfl, ?_, ⟨_, rfl⟩, hW, hsame.mono (by decide) (by decide)⟩
    · show Steps p.tables e below (T3.setTop (mkF m 16 (LS_R r0) [(.ref wF)])) _
      exact retOut X3 hx Bd.returns rfl (Or.inr (Or.inr (Or.inr (Or.inr ⟨rfl, rfl, rfl⟩)))) (hb hby d3_16) hr
    · show Q3 Z r0 wG wF h0 n0 _ T3.heap _
      rw [e3]
      exact ⟨by rw [if_pos hc4_2], N0, rfl⟩
  · refine own_go (B := T1.setTop (mkF m 13 (LS_R r0) [])) (fun t k => ?_) ?_
    · show Steps p.tables e below (T1.setTop (mkF m 4 (LS_R r0) [(.ref wG), (.ref r0)])) _
      refine Jvm.RoadKit.acmp (g := (mkF m 4 (LS_R r0) [(.ref wG), (.ref r0)])) X1 hx rfl rfl rfl (pc0 := 4) (pc' := 13) (same := false) rfl (hb hby d3_4) rfl (decide_eq_false fun q => hc4_2 (Value.ref.inj q)) (by decide) (by decide) ?_
      exact k
    obtain ⟨T4, X4, e4, st4⟩ := getS2 X1 hx hZ hown (host := "") (Or.inl (hw _ (List.mem_of_getElem? (i := 8) rfl))) Via.refl e1 S_GROUP (g := (mkF m 13 (LS_R r0) [])) rfl (hb hby d3_13)
    refine own_go (B := T4.setTop (mkF m 16 (LS_R r0) [(.ref wG)])) (fun t k => st4 _ k) ?_
    obtain ⟨fs, hr, hrun, hended, hW, hsame⟩ := X4.leave (v := some (.ref wG)) (fun h => by rw [Bd.returns] at h; cases h)
    refine ⟨_, _, ?_, hrun, hended, _, _, rfl, ?_, ⟨_, rfl⟩, hW, hsame.mono (by decide) (by decide)⟩
    · show Steps p.tables e below (T4.setTop (mkF m 16 (LS_R r0) [(.ref wG)])) _
      exact retOut X4 hx Bd.returns rfl (Or.inr (Or.inr (Or.inr (Or.inr ⟨rfl, rfl, rfl⟩)))) (hb hby d3_16) hr
    · show Q3 Z r0 wG wF h0 n0 _ T4.heap _
      rw [e4]
      exact ⟨by rw [if_neg hc4_2], N0, rfl⟩
theorem ef_2 (m : MethodId) (r0 : Addr) : entryFrame m #[(.ref r0)] 1 = mkF m 0 #[.val (.ref r0)] [] := by first | (simp [entryFrame, mkF, argsToLocals, Value.category]; done) | rfl
theorem pn_2 : plainName "com/example/rameau/rameau/model/Privilege" = true := by first | (simp [plainName, overriddenIn]; done) | decide +kernel
theorem d2_0 : decode prog_19_method_7_code 0 = .ok (.aload_n 0, 1) := by decide +kernel
theorem d2_1 : decode prog_19_method_7_code 1 = .ok (.getfield 41, 3) := by decide +kernel
theorem d2_4 : decode prog_19_method_7_code 4 = .ok (.areturn, 1) := by decide +kernel
def Q2 (Z : State) (r0 : Addr) (w0 : Addr) (h0 : Heap) (n0 : Nat) (v : Option Value) (h : Heap) (L : List Loc) : Prop := v = some (.ref w0) ∧ Fr n0 L ∧ h = h0
set_option maxRecDepth 65536 in
set_option maxHeartbeats 40000000 in
theorem rm2 (l : Launch) (Z : State) (a0 : Array Value) (hw : ∀ d ∈ tables_1, d.before a0 Z = true) (ws : List Jvm.Cond) (r0 : Addr) (w0 : Addr) (h0 : Heap) (n0 : Nat) (Z0 : n0 ≤ h0.size) (F0 : Fld Z h0 r0 "com/example/rameau/rameau/model/Privilege" "target" "Lcom/example/rameau/rameau/model/Privilege$Target;" (.ref w0)) :
    MetFree l (⟨"com/example/rameau/rameau/model/Privilege", "target", "()Lcom/example/rameau/rameau/model/Privilege$Target;"⟩ : MethodName) (head1 (Jvm.Cond.code (⟨"com/example/rameau/rameau/model/Privilege", "target", "()Lcom/example/rameau/rameau/model/Privilege$Target;"⟩ : MethodName) prog_19_method_7_code 1 (some (.object "com/example/rameau/rameau/model/Privilege$Target")) :: ws) ({ frames := 0, cells := 0, slots := 0, locals := 0 } : Room)) (fun a U => a = #[(.ref r0)] ∧ Z.Warmed39 U.vm ∧ U.heap = h0) (fun _ _ _ _ _ => True) (fun _ U o U' => ∃ v L, o = .returned v ∧ Q2 Z r0 w0 h0 n0 v U'.heap L ∧ FrameEnd U o U' L ({ frames := 0, cells := 0, slots := 0, locals := 0 } : Room).cells ({ frames := 0, cells := 0, slots := 0, locals := 0 } : Room).slots) := by
  refine MetFree.of_bodySF (plainFor_of_name pn_2) hisR ?_
  intro p e s m args below meth c s₁ Bd hml0 hP hK
  obtain ⟨rfl, hZ, hh⟩ := hP
  have hx := Bd.exec
  have hby := Bd.bytes
  have hml : c.maxLocals = 1 := hml0
  have hown : s.vm.findClass "com/example/rameau/rameau/model/Privilege" = some m.cls := findClass_of_methodNamed Bd.named
  have hnm := (name_of_methodNamed Bd.named Bd.method).1
  have X0 : Stand p l e ({ frames := 0, cells := 0, slots := 0, locals := 0 } : Room) s m #[(.ref r0)] below meth c s₁ [] 0 0 := Stand.of_body Bd
  have e0 : s₁.heap = h0 := by rw [← hh, Bd.state]; rfl
  have N0 := Fr.nil n0
  refine own_go (B := s₁.setTop (mkF m 0 (LS_R r0) [])) (fun t k => castTop (ef_2 m r0) k) ?_
  refine own_go (B := s₁.setTop (mkF m 1 (LS_R r0) [(.ref r0)])) (fun t k => ?_) ?_
  · show Steps p.tables e below (s₁.setTop (mkF m 0 (LS_R r0) [])) _
    refine XS.aloadN X0.here hx rfl (hb hby d2_0) rfl rfl ?_
    exact k
  obtain ⟨T1, X1, e1, st1⟩ := getF X0 hx hZ hown (host := "") (Or.inl (hw _ (List.mem_of_getElem? (i := 18) rfl))) Via.refl e0 F0 (g := (mkF m 1 (LS_R r0) [(.ref r0)])) rfl rfl (hb hby d2_1)
  refine own_go (B := T1.setTop (mkF m 4 (LS_R r0) [(.ref w0)])) (fun t k => st1 _ k) ?_
  obtain ⟨fs, hr, hrun, hended, hW, hsame⟩ := X1.leave (v := some (.ref w0)) (fun h => by rw [Bd.returns] at h; cases h)
  refine ⟨_, _, ?_, hrun, hended, _, _, rfl, ?_, ⟨_, rfl⟩, hW, hsame.mono (by decide) (by decide)⟩
  · show Steps p.tables e below (T1.setTop (mkF m 4 (LS_R r0) [(.ref w0)])) _
    exact retOut X1 hx Bd.returns rfl (Or.inr (Or.inr (Or.inr (Or.inr ⟨rfl, rfl, rfl⟩)))) (hb hby d2_4) hr
  · show Q2 Z r0 w0 h0 n0 _ T1.heap _
    rw [e1]
    exact ⟨rfl, N0, rfl⟩
theorem ef_0 (m : MethodId) (p0 : Int32) : entryFrame m #[(.int p0)] maxLocals = mkF m 0 #[.val (.int p0), .unset, .unset, .unset, .unset, .unset] [] := by first | (simp [entryFrame, mkF, argsToLocals, Value.category, maxLocals]; done) | rfl
theorem pn_0 : plainName "com/example/rameau/rameau/model/TargetGrantingPinLaw" = true := by first | (simp [plainName, overriddenIn]; done) | decide +kernel
abbrev LS_Iuuuuu (a0 : Int32) : Array Slot := #[.val (.int a0), .unset, .unset, .unset, .unset, .unset]
abbrev LS_IIuuuu (a0 : Int32) (a1 : Int32) : Array Slot := #[.val (.int a0), .val (.int a1), .unset, .unset, .unset, .unset]
abbrev LS_IIRuuu (a0 : Int32) (a1 : Int32) (a2 : Addr) : Array Slot := #[.val (.int a0), .val (.int a1), .val (.ref a2), .unset, .unset, .unset]
theorem pd___Lcom_example_rameau_rameau_model_Privilege_ : parseMethodDescriptor "()Lcom/example/rameau/rameau/model/Privilege;" = some ⟨[], some (.object "com/example/rameau/rameau/model/Privilege")⟩ := by decide +kernel
abbrev LS_IIRRuu (a0 : Int32) (a1 : Int32) (a2 : Addr) (a3 : Addr) : Array Slot := #[.val (.int a0), .val (.int a1), .val (.ref a2), .val (.ref a3), .unset, .unset]
abbrev LS_IIRRRu (a0 : Int32) (a1 : Int32) (a2 : Addr) (a3 : Addr) (a4 : Addr) : Array Slot := #[.val (.int a0), .val (.int a1), .val (.ref a2), .val (.ref a3), .val (.ref a4), .unset]
theorem pd___Lcom_example_rameau_rameau_model_Privilege_Target_ : parseMethodDescriptor "()Lcom/example/rameau/rameau/model/Privilege$Target;" = some ⟨[], some (.object "com/example/rameau/rameau/model/Privilege$Target")⟩ := by decide +kernel
abbrev LS_IIRRRR (a0 : Int32) (a1 : Int32) (a2 : Addr) (a3 : Addr) (a4 : Addr) (a5 : Addr) : Array Slot := #[.val (.int a0), .val (.int a1), .val (.ref a2), .val (.ref a3), .val (.ref a4), .val (.ref a5)]
def Q0 (Z : State) (p0 : Int32) (w_Privilege_Target_GROUP : Addr) (w_Privilege_ADMIN : Addr) (w_Privilege_Target_FOLDER : Addr) (w_Privilege_STEM : Addr) (h0 : Heap) (n0 : Nat) (v : Option Value) (h : Heap) (L : List Loc) : Prop := v = some (.int (1 : Int32)) ∧ Fr n0 L
set_option maxRecDepth 65536 in
set_option maxHeartbeats 40000000 in
theorem rm0 (l : Launch) (Z : State) (a0 : Array Value) (hw : ∀ d ∈ tables_1, d.before a0 Z = true) (ws : List Jvm.Cond) (p0 : Int32) (w_Privilege_Target_GROUP : Addr) (w_Privilege_ADMIN : Addr) (w_Privilege_Target_FOLDER : Addr) (w_Privilege_STEM : Addr) (h0 : Heap) (n0 : Nat) (Z0 : n0 ≤ h0.size) (S_Privilege_Target_GROUP : Sta Z h0 "com/example/rameau/rameau/model/Privilege$Target" "GROUP" "Lcom/example/rameau/rameau/model/Privilege$Target;" (.ref w_Privilege_Target_GROUP)) (E_Privilege_Target_GROUP : Exa Z h0 w_Privilege_Target_GROUP "com/example/rameau/rameau/model/Privilege$Target") (S_Privilege_ADMIN : Sta Z h0 "com/example/rameau/rameau/model/Privilege" "ADMIN" "Lcom/example/rameau/rameau/model/Privilege;" (.ref w_Privilege_ADMIN)) (E_Privilege_ADMIN : Exa Z h0 w_Privilege_ADMIN "com/example/rameau/rameau/model/Privilege") (S_Privilege_Target_FOLDER : Sta Z h0 "com/example/rameau/rameau/model/Privilege$Target" "FOLDER" "Lcom/example/rameau/rameau/model/Privilege$Target;" (.ref w_Privilege_Target_FOLDER)) (E_Privilege_Target_FOLDER : Exa Z h0 w_Privilege_Target_FOLDER "com/example/rameau/rameau/model/Privilege$Target") (S_Privilege_STEM : Sta Z h0 "com/example/rameau/rameau/model/Privilege" "STEM" "Lcom/example/rameau/rameau/model/Privilege;" (.ref w_Privilege_STEM)) (E_Privilege_STEM : Exa Z h0 w_Privilege_STEM "com/example/rameau/rameau/model/Privilege") (F_Privilege_ADMIN_target : Fld Z h0 w_Privilege_ADMIN "com/example/rameau/rameau/model/Privilege" "target" "Lcom/example/rameau/rameau/model/Privilege$Target;" (.ref w_Privilege_Target_GROUP)) (F_Privilege_Target_FOLDER_ordinal : Fld Z h0 w_Privilege_Target_FOLDER "java/lang/Enum" "ordinal" "I" (.int (1 : Int32))) (F_Privilege_Target_GROUP_ordinal : Fld Z h0 w_Privilege_Target_GROUP "java/lang/Enum" "ordinal" "I" (.int (0 : Int32))) (F_Privilege_STEM_ordinal : Fld Z h0 w_Privilege_STEM "java/lang/Enum" "ordinal" "I" (.int (4 : Int32))) (F_Privilege_ADMIN_ordinal : Fld Z h0 w_Privilege_ADMIN "java/lang/Enum" "ordinal" "I" (.int (0 : Int32))) (F_Privilege_STEM_target : Fld Z h0 w_Privilege_STEM "com/example/rameau/rameau/model/Privilege" "target" "Lcom/example/rameau/rameau/model/Privilege$Target;" (.ref w_Privilege_Target_FOLDER)) :
    MetFree l x (head1 (Jvm.Cond.code x code maxLocals ret :: ws) room_1) (fun a U => a = #[(.int p0)] ∧ Z.Warmed39 U.vm ∧ U.heap = h0) (fun _ _ _ _ _ => True) (fun _ U o U' => ∃ v L, o = .returned v ∧ Q0 Z p0 w_Privilege_Target_GROUP w_Privilege_ADMIN w_Privilege_Target_FOLDER w_Privilege_STEM h0 n0 v U'.heap L ∧ FrameEnd U o U' L room_1.cells room_1.slots) := by
  refine MetFree.of_bodySF (plainFor_of_name pn_0) hisR ?_
  intro p e s m args below meth c s₁ Bd hml0 hP hK
  obtain ⟨rfl, hZ, hh⟩ := hP
  have hx := Bd.exec
  have hby := Bd.bytes
  have hml : c.maxLocals = 6 := hml0
  have hown : s.vm.findClass "com/example/rameau/rameau/model/TargetGrantingPinLaw" = some m.cls := findClass_of_methodNamed Bd.named
  have hnm := (name_of_methodNamed Bd.named Bd.method).1
  have X0 : Stand p l e room_1 s m #[(.int p0)] below meth c s₁ [] 0 0 := Stand.of_body Bd
  have e0 : s₁.heap = h0 := by rw [← hh, Bd.state]; rfl
  have N0 := Fr.nil n0
  refine own_go (B := s₁.setTop (mkF m 0 (LS_Iuuuuu p0) [])) (fun t k => castTop (ef_0 m p0) k) ?_
  refine own_go (B := s₁.setTop (mkF m 3 (LS_Iuuuuu p0) [(.int (p0 &&& (1 : Int32)))])) (fun t k => ?_) ?_
  · show Steps p.tables e below (s₁.setTop (mkF m 0 (LS_Iuuuuu p0) [])) _
    refine XS.iloadN X0.here hx rfl (hb hby at_0) rfl ?_
    show Steps p.tables e below (s₁.setTop (mkF m 1 (LS_Iuuuuu p0) [(.int p0)])) _
    refine XS.iconst X0.here hx rfl (hb hby at_1) ?_
    show Steps p.tables e below (s₁.setTop (mkF m 2 (LS_Iuuuuu p0) [(.int (1 : Int32)), (.int p0)])) _
    refine XS.iand X0.here hx rfl (hb hby at_2) rfl ?_
    exact k
  by_cases hc3_1 : (p0 &&& (1 : Int32)) = (0 : Int32)
  · refine own_go (B := s₁.setTop (mkF m 16 (LS_IIuuuu p0 (1 : Int32)) [])) (fun t k => ?_) ?_
    · show Steps p.tables e below (s₁.setTop (mkF m 3 (LS_Iuuuuu p0) [(.int (p0 &&& (1 : Int32)))])) _
      refine XS.ifNo X0.here hx rfl (hb hby at_3) rfl ((if0 _ _).trans (teq hc3_1).2) ?_
      show Steps p.tables e below (s₁.setTop (mkF m 6 (LS_Iuuuuu p0) [])) _
      refine XS.iconst X0.here hx rfl (hb hby at_6) ?_
      show Steps p.tables e below (s₁.setTop (mkF m 7 (LS_Iuuuuu p0) [(.int (1 : Int32))])) _
      refine XS.goto X0.here hx rfl (pc0 := 7) (pc' := 11) rfl (hb hby at_7) (by decide) (by decide) ?_
      show Steps p.tables e below (s₁.setTop (mkF m 11 (LS_Iuuuuu p0) [(.int (1 : Int32))])) _
      refine XS.istoreN X0.here hx rfl (hb hby at_11) rfl (l' := (LS_IIuuuu p0 (1 : Int32))) rfl ?_
      show Steps p.tables e below (s₁.setTop (mkF m 12 (LS_IIuuuu p0 (1 : Int32)) [])) _
      refine XS.iloadN X0.here hx rfl (hb hby at_12) rfl ?_
      show Steps p.tables e below (s₁.setTop (mkF m 13 (LS_IIuuuu p0 (1 : Int32)) [(.int (1 : Int32))])) _
      refine XS.ifNo X0.here hx rfl (hb hby at_13) rfl ((if0 _ _).trans (feq (by decide : ¬ ((1 : Int32) = (0 : Int32)))).1) ?_
      exact k
    obtain ⟨T2, X2, e2, st2⟩ := getS2 X0 hx hZ hown (host := "") (Or.inl (hw _ (List.mem_of_getElem? (i := 0) rfl))) Via.refl e0 S_Privilege_Target_GROUP (g := (mkF m 16 (LS_IIuuuu p0 (1 : Int32)) [])) rfl (hb hby at_16)
    refine own_go (B := T2.setTop (mkF m 19 (LS_IIuuuu p0 (1 : Int32)) [(.ref w_Privilege_Target_GROUP)])) (fun t k => st2 _ k) ?_
    refine own_go (B := T2.setTop (mkF m 27 (LS_IIRuuu p0 (1 : Int32) w_Privilege_Target_GROUP) [(.ref w_Privilege_Target_GROUP)])) (fun t k => ?_) ?_
    · show Steps p.tables e below (T2.setTop (mkF m 19 (LS_IIuuuu p0 (1 : Int32)) [(.ref w_Privilege_Target_GROUP)])) _
      refine XS.goto X2.here hx rfl (pc0 := 19) (pc' := 25) rfl (hb hby at_19) (by decide) (by decide) ?_
      show Steps p.tables e below (T2.setTop (mkF m 25 (LS_IIuuuu p0 (1 : Int32)) [(.ref w_Privilege_Target_GROUP)])) _
      refine XS.astoreN X2.here hx rfl (hb hby at_25) rfl rfl (l' := (LS_IIRuuu p0 (1 : Int32) w_Privilege_Target_GROUP)) rfl ?_
      show Steps p.tables e below (T2.setTop (mkF m 26 (LS_IIRuuu p0 (1 : Int32) w_Privilege_Target_GROUP) [])) _
      refine XS.aloadN X2.here hx rfl (hb hby at_26) rfl rfl ?_
      exact k
    obtain ⟨cq3, kq3, q3a, q3b, q3c⟩ := isOf hZ e2 E_Privilege_Target_GROUP
    obtain ⟨_, _, ⟨T3, L3, k3, n3⟩, -, X3, ⟨Lc3, hQ3, l3, y3, z3⟩, st3⟩ := X2.virtualBack hx (y := (⟨"com/example/rameau/rameau/model/Privilege$Target", "granting", "()Lcom/example/rameau/rameau/model/Privilege;"⟩ : MethodName)) (z := (⟨"com/example/rameau/rameau/model/Privilege$Target", "granting", "()Lcom/example/rameau/rameau/model/Privilege;"⟩ : MethodName)) hown (mvT hZ (hw _ (List.mem_of_getElem? (i := 3) rfl))) (mvT hZ (hw _ (List.mem_of_getElem? (i := 4) rfl))) (notFace_of_selects (args := #[]) (mvT hZ (hw _ (List.mem_of_getElem? (i := 6) rfl)))) (mvT hZ (hw _ (List.mem_of_getElem? (i := 6) rfl))) (mvT hZ (hw _ (List.mem_of_getElem? (i := 5) rfl))) (by decide) (backOf (W := 0) (rm1 l Z a0 hw [] w_Privilege_Target_GROUP w_Privilege_Target_GROUP w_Privilege_ADMIN w_Privilege_STEM h0 n0 Z0 S_Privilege_Target_GROUP S_Privilege_ADMIN S_Privilege_STEM) hZ (hw _ (List.mem_of_getElem? (i := 7) rfl)) (hw _ (List.mem_of_getElem? (i := 1) rfl)) (by decide) (by decide)) q3a q3c (g := (mkF m 27 (LS_IIRuuu p0 (1 : Int32) w_Privilege_Target_GROUP) [(.ref w_Privilege_Target_GROUP)])) rfl (by rw [hml]; rfl) (Steps.refl _) (argsL := []) (rest := []) (lenOf pd___Lcom_example_rameau_rameau_model_Privilege_ rfl) rfl (by show 2 * 0 + _ ≤ _; exact Nat.le_of_eq rfl) (hb hby at_27) (fun _ _ => ⟨rfl, e2, (by decide : 0 + 0 ≤ _), (by decide : 0 + 0 ≤ _)⟩)
    dsimp only [Pt.U, Pt.locs, Pt.cells, Pt.slots] at X3 l3 y3 z3 st3 hQ3
    subst l3 y3 z3
    obtain ⟨rfl, N3q, e3⟩ := hQ3
    have N3 := Fr.app N0 N3q
    refine own_go (B := T3.setTop (mkF m 30 (LS_IIRuuu p0 (1 : Int32) w_Privilege_Target_GROUP) [(.ref (if w_Privilege_Target_GROUP = w_Privilege_Target_GROUP then w_Privilege_ADMIN else w_Privilege_STEM))])) (fun t k => st3.trans k) ?_
    rw [show (if w_Privilege_Target_GROUP = w_Privilege_Target_GROUP then w_Privilege_ADMIN else w_Privilege_STEM) = w_Privilege_ADMIN from if_pos rfl]
    refine own_go (B := T3.setTop (mkF m 41 (LS_IIRRuu p0 (1 : Int32) w_Privilege_Target_GROUP w_Privilege_ADMIN) [])) (fun t k => ?_) ?_
    · show Steps p.tables e below (T3.setTop (mkF m 30 (LS_IIRuuu p0 (1 : Int32) w_Privilege_Target_GROUP) [(.ref w_Privilege_ADMIN)])) _
      refine XS.astoreN X3.here hx rfl (hb hby at_30) rfl rfl (l' := (LS_IIRRuu p0 (1 : Int32) w_Privilege_Target_GROUP w_Privilege_ADMIN)) rfl ?_
      show Steps p.tables e below (T3.setTop (mkF m 31 (LS_IIRRuu p0 (1 : Int32) w_Privilege_Target_GROUP w_Privilege_ADMIN) [])) _
      refine XS.aloadN X3.here hx rfl (hb hby at_31) rfl rfl ?_
      show Steps p.tables e below (T3.setTop (mkF m 32 (LS_IIRRuu p0 (1 : Int32) w_Privilege_Target_GROUP w_Privilege_ADMIN) [(.ref w_Privilege_ADMIN)])) _
      refine XS.ifnonnullYes X3.here hx rfl (pc0 := 32) (pc' := 37) rfl (hb hby at_32) rfl (by decide) (by decide) ?_
      show Steps p.tables e below (T3.setTop (mkF m 37 (LS_IIRRuu p0 (1 : Int32) w_Privilege_Target_GROUP w_Privilege_ADMIN) [])) _
      refine XS.iloadN X3.here hx rfl (hb hby at_37) rfl ?_
      show Steps p.tables e below (T3.setTop (mkF m 38 (LS_IIRRuu p0 (1 : Int32) w_Privilege_Target_GROUP w_Privilege_ADMIN) [(.int (1 : Int32))])) _
      refine XS.ifNo X3.here hx rfl (hb hby at_38) rfl ((if0 _ _).trans (feq (by decide : ¬ ((1 : Int32) = (0 : Int32)))).1) ?_
      exact k
    obtain ⟨T4, X4, e4, st4⟩ := getS2 X3 hx hZ hown (host := "") (Or.inl (hw _ (List.mem_of_getElem? (i := 12) rfl))) Via.refl e3 S_Privilege_ADMIN (g := (mkF m 41 (LS_IIRRuu p0 (1 : Int32) w_Privilege_Target_GROUP w_Privilege_ADMIN) [])) rfl (hb hby at_41)
    refine own_go (B := T4.setTop (mkF m 44 (LS_IIRRuu p0 (1 : Int32) w_Privilege_Target_GROUP w_Privilege_ADMIN) [(.ref w_Privilege_ADMIN)])) (fun t k => st4 _ k) ?_
    refine own_go (B := T4.setTop (mkF m 63 (LS_IIRRRu p0 (1 : Int32) w_Privilege_Target_GROUP w_Privilege_ADMIN w_Privilege_ADMIN) [(.ref w_Privilege_ADMIN)])) (fun t k => ?_) ?_
    · show Steps p.tables e below (T4.setTop (mkF m 44 (LS_IIRRuu p0 (1 : Int32) w_Privilege_Target_GROUP w_Privilege_ADMIN) [(.ref w_Privilege_ADMIN)])) _
      refine XS.astore X4.here hx rfl (hb hby at_44) rfl rfl (l' := (LS_IIRRRu p0 (1 : Int32) w_Privilege_Target_GROUP w_Privilege_ADMIN w_Privilege_ADMIN)) rfl ?_
      show Steps p.tables e below (T4.setTop (mkF m 46 (LS_IIRRRu p0 (1 : Int32) w_Privilege_Target_GROUP w_Privilege_ADMIN w_Privilege_ADMIN) [])) _
      refine XS.goto X4.here hx rfl (pc0 := 46) (pc' := 54) rfl (hb hby at_46) (by decide) (by decide) ?_
      show Steps p.tables e below (T4.setTop (mkF m 54 (LS_IIRRRu p0 (1 : Int32) w_Privilege_Target_GROUP w_Privilege_ADMIN w_Privilege_ADMIN) [])) _
      refine XS.aloadN X4.here hx rfl (hb hby at_54) rfl rfl ?_
      show Steps p.tables e below (T4.setTop (mkF m 55 (LS_IIRRRu p0 (1 : Int32) w_Privilege_Target_GROUP w_Privilege_ADMIN w_Privilege_ADMIN) [(.ref w_Privilege_ADMIN)])) _
      refine XS.aload X4.here hx rfl (hb hby at_55) rfl rfl ?_
      show Steps p.tables e below (T4.setTop (mkF m 57 (LS_IIRRRu p0 (1 : Int32) w_Privilege_Target_GROUP w_Privilege_ADMIN w_Privilege_ADMIN) [(.ref w_Privilege_ADMIN), (.ref w_Privilege_ADMIN)])) _
      refine Jvm.RoadKit.acmp (g := (mkF m 57 (LS_IIRRRu p0 (1 : Int32) w_Privilege_Target_GROUP w_Privilege_ADMIN w_Privilege_ADMIN) [(.ref w_Privilege_ADMIN), (.ref w_Privilege_ADMIN)])) X4 hx rfl rfl rfl (pc0 := 57) (pc' := 62) (same := true) rfl (hb hby at_57) rfl (decide_eq_true rfl) (by decide) (by decide) ?_
      show Steps p.tables e below (T4.setTop (mkF m 62 (LS_IIRRRu p0 (1 : Int32) w_Privilege_Target_GROUP w_Privilege_ADMIN w_Privilege_ADMIN) [])) _
      refine XS.aloadN X4.here hx rfl (hb hby at_62) rfl rfl ?_
      exact k
    obtain ⟨cq5, kq5, q5a, q5b, q5c⟩ := isOf hZ e4 E_Privilege_ADMIN
    obtain ⟨_, _, ⟨T5, L5, k5, n5⟩, -, X5, ⟨Lc5, hQ5, l5, y5, z5⟩, st5⟩ := X4.virtualBack hx (y := (⟨"com/example/rameau/rameau/model/Privilege", "target", "()Lcom/example/rameau/rameau/model/Privilege$Target;"⟩ : MethodName)) (z := (⟨"com/example/rameau/rameau/model/Privilege", "target", "()Lcom/example/rameau/rameau/model/Privilege$Target;"⟩ : MethodName)) hown (mvT hZ (hw _ (List.mem_of_getElem? (i := 13) rfl))) (mvT hZ (hw _ (List.mem_of_getElem? (i := 14) rfl))) (notFace_of_selects (args := #[]) (mvT hZ (hw _ (List.mem_of_getElem? (i := 16) rfl)))) (mvT hZ (hw _ (List.mem_of_getElem? (i := 16) rfl))) (mvT hZ (hw _ (List.mem_of_getElem? (i := 15) rfl))) (by decide) (backOf (W := 0) (rm2 l Z a0 hw [] w_Privilege_ADMIN w_Privilege_Target_GROUP h0 n0 Z0 F_Privilege_ADMIN_target) hZ (hw _ (List.mem_of_getElem? (i := 17) rfl)) (hw _ (List.mem_of_getElem? (i := 10) rfl)) (by decide) (by decide)) q5a q5c (g := (mkF m 63 (LS_IIRRRu p0 (1 : Int32) w_Privilege_Target_GROUP w_Privilege_ADMIN w_Privilege_ADMIN) [(.ref w_Privilege_ADMIN)])) rfl (by rw [hml]; rfl) (Steps.refl _) (argsL := []) (rest := []) (lenOf pd___Lcom_example_rameau_rameau_model_Privilege_Target_ rfl) rfl (by show 2 * 0 + _ ≤ _; exact Nat.le_of_eq rfl) (hb hby at_63) (fun _ _ => ⟨rfl, e4, (by decide : 0 + 0 ≤ _), (by decide : 0 + 0 ≤ _)⟩)
    dsimp only [Pt.U, Pt.locs, Pt.cells, Pt.slots] at X5 l5 y5 z5 st5 hQ5
    subst l5 y5 z5
    obtain ⟨rfl, N5q, e5⟩ := hQ5
    have N5 := Fr.app N3 N5q
    refine own_go (B := T5.setTop (mkF m 66 (LS_IIRRRu p0 (1 : Int32) w_Privilege_Target_GROUP w_Privilege_ADMIN w_Privilege_ADMIN) [(.ref w_Privilege_Target_GROUP)])) (fun t k => st5.trans k) ?_
    refine own_go (B := T5.setTop (mkF m 73 (LS_IIRRRu p0 (1 : Int32) w_Privilege_Target_GROUP w_Privilege_ADMIN w_Privilege_ADMIN) [(.ref w_Privilege_Target_GROUP)])) (fun t k => ?_) ?_
    · show Steps p.tables e below (T5.setTop (mkF m 66 (LS_IIRRRu p0 (1 : Int32) w_Privilege_Target_GROUP w_Privilege_ADMIN w_Privilege_ADMIN) [(.ref w_Privilege_Target_GROUP)])) _
      refine XS.aloadN X5.here hx rfl (hb hby at_66) rfl rfl ?_
      show Steps p.tables e below (T5.setTop (mkF m 67 (LS_IIRRRu p0 (1 : Int32) w_Privilege_Target_GROUP w_Privilege_ADMIN w_Privilege_ADMIN) [(.ref w_Privilege_Target_GROUP), (.ref w_Privilege_Target_GROUP)])) _
      refine Jvm.RoadKit.acmp (g := (mkF m 67 (LS_IIRRRu p0 (1 : Int32) w_Privilege_Target_GROUP w_Privilege_ADMIN w_Privilege_ADMIN) [(.ref w_Privilege_Target_GROUP), (.ref w_Privilege_Target_GROUP)])) X5 hx rfl rfl rfl (pc0 := 67) (pc' := 72) (same := true) rfl (hb hby at_67) rfl (decide_eq_true rfl) (by decide) (by decide) ?_
      show Steps p.tables e below (T5.setTop (mkF m 72 (LS_IIRRRu p0 (1 : Int32) w_Privilege_Target_GROUP w_Privilege_ADMIN w_Privilege_ADMIN) [])) _
      refine XS.aloadN X5.here hx rfl (hb hby at_72) rfl rfl ?_
      exact k
    obtain ⟨cq6, kq6, q6a, q6b, q6c⟩ := isOf hZ e5 E_Privilege_Target_GROUP
    obtain ⟨_, _, ⟨T6, L6, k6, n6⟩, -, X6, ⟨Lc6, hQ6, l6, y6, z6⟩, st6⟩ := X5.virtualBack hx (y := (⟨"com/example/rameau/rameau/model/Privilege$Target", "other", "()Lcom/example/rameau/rameau/model/Privilege$Target;"⟩ : MethodName)) (z := (⟨"com/example/rameau/rameau/model/Privilege$Target", "other", "()Lcom/example/rameau/rameau/model/Privilege$Target;"⟩ : MethodName)) hown (mvT hZ (hw _ (List.mem_of_getElem? (i := 20) rfl))) (mvT hZ (hw _ (List.mem_of_getElem? (i := 21) rfl))) (notFace_of_selects (args := #[]) (mvT hZ (hw _ (List.mem_of_getElem? (i := 23) rfl)))) (mvT hZ (hw _ (List.mem_of_getElem? (i := 23) rfl))) (mvT hZ (hw _ (List.mem_of_getElem? (i := 22) rfl))) (by decide) (backOf (W := 0) (rm3 l Z a0 hw [] w_Privilege_Target_GROUP w_Privilege_Target_GROUP w_Privilege_Target_FOLDER h0 n0 Z0 S_Privilege_Target_GROUP S_Privilege_Target_FOLDER) hZ (hw _ (List.mem_of_getElem? (i := 24) rfl)) (hw _ (List.mem_of_getElem? (i := 1) rfl)) (by decide) (by decide)) q6a q6c (g := (mkF m 73 (LS_IIRRRu p0 (1 : Int32) w_Privilege_Target_GROUP w_Privilege_ADMIN w_Privilege_ADMIN) [(.ref w_Privilege_Target_GROUP)])) rfl (by rw [hml]; rfl) (Steps.refl _) (argsL := []) (rest := []) (lenOf pd___Lcom_example_rameau_rameau_model_Privilege_Target_ rfl) rfl (by show 2 * 0 + _ ≤ _; exact Nat.le_of_eq rfl) (hb hby at_73) (fun _ _ => ⟨rfl, e5, (by decide : 0 + 0 ≤ _), (by decide : 0 + 0 ≤ _)⟩)
    dsimp only [Pt.U, Pt.locs, Pt.cells, Pt.slots] at X6 l6 y6 z6 st6 hQ6
    subst l6 y6 z6
    obtain ⟨rfl, N6q, e6⟩ := hQ6
    have N6 := Fr.app N5 N6q
    refine own_go (B := T6.setTop (mkF m 76 (LS_IIRRRu p0 (1 : Int32) w_Privilege_Target_GROUP w_Privilege_ADMIN w_Privilege_ADMIN) [(.ref (if w_Privilege_Target_GROUP = w_Privilege_Target_GROUP then w_Privilege_Target_FOLDER else w_Privilege_Target_GROUP))])) (fun t k => st6.trans k) ?_
    rw [show (if w_Privilege_Target_GROUP = w_Privilege_Target_GROUP then w_Privilege_Target_FOLDER else w_Privilege_Target_GROUP) = w_Privilege_Target_FOLDER from if_pos rfl]
    obtain ⟨cq7, kq7, q7a, q7b, q7c⟩ := isOf hZ e6 E_Privilege_Target_FOLDER
    obtain ⟨_, _, ⟨T7, L7, k7, n7⟩, -, X7, ⟨Lc7, hQ7, l7, y7, z7⟩, st7⟩ := X6.virtualBack hx (y := (⟨"com/example/rameau/rameau/model/Privilege$Target", "granting", "()Lcom/example/rameau/rameau/model/Privilege;"⟩ : MethodName)) (z := (⟨"com/example/rameau/rameau/model/Privilege$Target", "granting", "()Lcom/example/rameau/rameau/model/Privilege;"⟩ : MethodName)) hown (mvT hZ (hw _ (List.mem_of_getElem? (i := 3) rfl))) (mvT hZ (hw _ (List.mem_of_getElem? (i := 4) rfl))) (notFace_of_selects (args := #[]) (mvT hZ (hw _ (List.mem_of_getElem? (i := 6) rfl)))) (mvT hZ (hw _ (List.mem_of_getElem? (i := 6) rfl))) (mvT hZ (hw _ (List.mem_of_getElem? (i := 5) rfl))) (by decide) (backOf (W := 0) (rm1 l Z a0 hw [] w_Privilege_Target_FOLDER w_Privilege_Target_GROUP w_Privilege_ADMIN w_Privilege_STEM h0 n0 Z0 S_Privilege_Target_GROUP S_Privilege_ADMIN S_Privilege_STEM) hZ (hw _ (List.mem_of_getElem? (i := 7) rfl)) (hw _ (List.mem_of_getElem? (i := 1) rfl)) (by decide) (by decide)) q7a q7c (g := (mkF m 76 (LS_IIRRRu p0 (1 : Int32) w_Privilege_Target_GROUP w_Privilege_ADMIN w_Privilege_ADMIN) [(.ref w_Privilege_Target_FOLDER)])) rfl (by rw [hml]; rfl) (Steps.refl _) (argsL := []) (rest := []) (lenOf pd___Lcom_example_rameau_rameau_model_Privilege_ rfl) rfl (by show 2 * 0 + _ ≤ _; exact Nat.le_of_eq rfl) (hb hby at_76) (fun _ _ => ⟨rfl, e6, (by decide : 0 + 0 ≤ _), (by decide : 0 + 0 ≤ _)⟩)
    dsimp only [Pt.U, Pt.locs, Pt.cells, Pt.slots] at X7 l7 y7 z7 st7 hQ7
    subst l7 y7 z7
    obtain ⟨rfl, N7q, e7⟩ := hQ7
    have N7 := Fr.app N6 N7q
    refine own_go (B := T7.setTop (mkF m 79 (LS_IIRRRu p0 (1 : Int32) w_Privilege_Target_GROUP w_Privilege_ADMIN w_Privilege_ADMIN) [(.ref (if w_Privilege_Target_FOLDER = w_Privilege_Target_GROUP then w_Privilege_ADMIN else w_Privilege_STEM))])) (fun t k => st7.trans k) ?_
    rw [show (if w_Privilege_Target_FOLDER = w_Privilege_Target_GROUP then w_Privilege_ADMIN else w_Privilege_STEM) = w_Privilege_STEM from if_neg (Fld.ne F_Privilege_Target_FOLDER_ordinal F_Privilege_Target_GROUP_ordinal (by decide))]
    refine own_go (B := T7.setTop (mkF m 92 (LS_IIRRRR p0 (1 : Int32) w_Privilege_Target_GROUP w_Privilege_ADMIN w_Privilege_ADMIN w_Privilege_STEM) [(.int (1 : Int32))])) (fun t k => ?_) ?_
    · show Steps p.tables e below (T7.setTop (mkF m 79 (LS_IIRRRu p0 (1 : Int32) w_Privilege_Target_GROUP w_Privilege_ADMIN w_Privilege_ADMIN) [(.ref w_Privilege_STEM)])) _
      refine XS.astore X7.here hx rfl (hb hby at_79) rfl rfl (l' := (LS_IIRRRR p0 (1 : Int32) w_Privilege_Target_GROUP w_Privilege_ADMIN w_Privilege_ADMIN w_Privilege_STEM)) rfl ?_
      show Steps p.tables e below (T7.setTop (mkF m 81 (LS_IIRRRR p0 (1 : Int32) w_Privilege_Target_GROUP w_Privilege_ADMIN w_Privilege_ADMIN w_Privilege_STEM) [])) _
      refine XS.aload X7.here hx rfl (hb hby at_81) rfl rfl ?_
      show Steps p.tables e below (T7.setTop (mkF m 83 (LS_IIRRRR p0 (1 : Int32) w_Privilege_Target_GROUP w_Privilege_ADMIN w_Privilege_ADMIN w_Privilege_STEM) [(.ref w_Privilege_STEM)])) _
      refine XS.aloadN X7.here hx rfl (hb hby at_83) rfl rfl ?_
      show Steps p.tables e below (T7.setTop (mkF m 84 (LS_IIRRRR p0 (1 : Int32) w_Privilege_Target_GROUP w_Privilege_ADMIN w_Privilege_ADMIN w_Privilege_STEM) [(.ref w_Privilege_ADMIN), (.ref w_Privilege_STEM)])) _
      refine Jvm.RoadKit.acmp (g := (mkF m 84 (LS_IIRRRR p0 (1 : Int32) w_Privilege_Target_GROUP w_Privilege_ADMIN w_Privilege_ADMIN w_Privilege_STEM) [(.ref w_Privilege_ADMIN), (.ref w_Privilege_STEM)])) X7 hx rfl rfl rfl (pc0 := 84) (pc' := 87) (same := false) rfl (hb hby at_84) rfl (decide_eq_false fun q => (Fld.ne F_Privilege_STEM_ordinal F_Privilege_ADMIN_ordinal (by decide)) (Value.ref.inj q)) (by decide) (by decide) ?_
      show Steps p.tables e below (T7.setTop (mkF m 87 (LS_IIRRRR p0 (1 : Int32) w_Privilege_Target_GROUP w_Privilege_ADMIN w_Privilege_ADMIN w_Privilege_STEM) [])) _
      refine XS.iconst X7.here hx rfl (hb hby at_87) ?_
      show Steps p.tables e below (T7.setTop (mkF m 88 (LS_IIRRRR p0 (1 : Int32) w_Privilege_Target_GROUP w_Privilege_ADMIN w_Privilege_ADMIN w_Privilege_STEM) [(.int (1 : Int32))])) _
      refine XS.goto X7.here hx rfl (pc0 := 88) (pc' := 92) rfl (hb hby at_88) (by decide) (by decide) ?_
      exact k
    obtain ⟨fs, hr, hrun, hended, hW, hsame⟩ := X7.leave (v := some (.int (1 : Int32))) (fun h => by rw [Bd.returns] at h; cases h)
    refine ⟨_, _, ?_, hrun, hended, _, _, rfl, ?_, ⟨_, rfl⟩, hW, hsame.mono (by decide) (by decide)⟩
    · show Steps p.tables e below (T7.setTop (mkF m 92 (LS_IIRRRR p0 (1 : Int32) w_Privilege_Target_GROUP w_Privilege_ADMIN w_Privilege_ADMIN w_Privilege_STEM) [(.int (1 : Int32))])) _
      exact retN X7 hx (t := .boolean) Bd.returns (by simp) (hb hby at_92) hr
    · show Q0 Z p0 w_Privilege_Target_GROUP w_Privilege_ADMIN w_Privilege_Target_FOLDER w_Privilege_STEM h0 n0 _ T7.heap _
      rw [e7]
      exact ⟨rfl, N7⟩
  · refine own_go (B := s₁.setTop (mkF m 22 (LS_IIuuuu p0 (0 : Int32)) [])) (fun t k => ?_) ?_
    · show Steps p.tables e below (s₁.setTop (mkF m 3 (LS_Iuuuuu p0) [(.int (p0 &&& (1 : Int32)))])) _
      refine XS.ifYes X0.here hx rfl (pc0 := 3) (pc' := 10) rfl (hb hby at_3) rfl ((if0 _ _).trans (feq hc3_1).2) (by decide) (by decide) ?_
      show Steps p.tables e below (s₁.setTop (mkF m 10 (LS_Iuuuuu p0) [])) _
      refine XS.iconst X0.here hx rfl (hb hby at_10) ?_
      show Steps p.tables e below (s₁.setTop (mkF m 11 (LS_Iuuuuu p0) [(.int (0 : Int32))])) _
      refine XS.istoreN X0.here hx rfl (hb hby at_11) rfl (l' := (LS_IIuuuu p0 (0 : Int32))) rfl ?_
      show Steps p.tables e below (s₁.setTop (mkF m 12 (LS_IIuuuu p0 (0 : Int32)) [])) _
      refine XS.iloadN X0.here hx rfl (hb hby at_12) rfl ?_
      show Steps p.tables e below (s₁.setTop (mkF m 13 (LS_IIuuuu p0 (0 : Int32)) [(.int (0 : Int32))])) _
      refine XS.ifYes X0.here hx rfl (pc0 := 13) (pc' := 22) rfl (hb hby at_13) rfl ((if0 _ _).trans (teq (by decide : (0 : Int32) = (0 : Int32))).1) (by decide) (by decide) ?_
      exact k
    obtain ⟨T8, X8, e8, st8⟩ := getS2 X0 hx hZ hown (host := "") (Or.inl (hw _ (List.mem_of_getElem? (i := 29) rfl))) Via.refl e0 S_Privilege_Target_FOLDER (g := (mkF m 22 (LS_IIuuuu p0 (0 : Int32)) [])) rfl (hb hby at_22)
    refine own_go (B := T8.setTop (mkF m 25 (LS_IIuuuu p0 (0 : Int32)) [(.ref w_Privilege_Target_FOLDER)])) (fun t k => st8 _ k) ?_
    refine own_go (B := T8.setTop (mkF m 27 (LS_IIRuuu p0 (0 : Int32) w_Privilege_Target_FOLDER) [(.ref w_Privilege_Target_FOLDER)])) (fun t k => ?_) ?_
    · show Steps p.tables e below (T8.setTop (mkF m 25 (LS_IIuuuu p0 (0 : Int32)) [(.ref w_Privilege_Target_FOLDER)])) _
      refine XS.astoreN X8.here hx rfl (hb hby at_25) rfl rfl (l' := (LS_IIRuuu p0 (0 : Int32) w_Privilege_Target_FOLDER)) rfl ?_
      show Steps p.tables e below (T8.setTop (mkF m 26 (LS_IIRuuu p0 (0 : Int32) w_Privilege_Target_FOLDER) [])) _
      refine XS.aloadN X8.here hx rfl (hb hby at_26) rfl rfl ?_
      exact k
    obtain ⟨cq9, kq9, q9a, q9b, q9c⟩ := isOf hZ e8 E_Privilege_Target_FOLDER
    obtain ⟨_, _, ⟨T9, L9, k9, n9⟩, -, X9, ⟨Lc9, hQ9, l9, y9, z9⟩, st9⟩ := X8.virtualBack hx (y := (⟨"com/example/rameau/rameau/model/Privilege$Target", "granting", "()Lcom/example/rameau/rameau/model/Privilege;"⟩ : MethodName)) (z := (⟨"com/example/rameau/rameau/model/Privilege$Target", "granting", "()Lcom/example/rameau/rameau/model/Privilege;"⟩ : MethodName)) hown (mvT hZ (hw _ (List.mem_of_getElem? (i := 3) rfl))) (mvT hZ (hw _ (List.mem_of_getElem? (i := 4) rfl))) (notFace_of_selects (args := #[]) (mvT hZ (hw _ (List.mem_of_getElem? (i := 6) rfl)))) (mvT hZ (hw _ (List.mem_of_getElem? (i := 6) rfl))) (mvT hZ (hw _ (List.mem_of_getElem? (i := 5) rfl))) (by decide) (backOf (W := 0) (rm1 l Z a0 hw [] w_Privilege_Target_FOLDER w_Privilege_Target_GROUP w_Privilege_ADMIN w_Privilege_STEM h0 n0 Z0 S_Privilege_Target_GROUP S_Privilege_ADMIN S_Privilege_STEM) hZ (hw _ (List.mem_of_getElem? (i := 7) rfl)) (hw _ (List.mem_of_getElem? (i := 1) rfl)) (by decide) (by decide)) q9a q9c (g := (mkF m 27 (LS_IIRuuu p0 (0 : Int32) w_Privilege_Target_FOLDER) [(.ref w_Privilege_Target_FOLDER)])) rfl (by rw [hml]; rfl) (Steps.refl _) (argsL := []) (rest := []) (lenOf pd___Lcom_example_rameau_rameau_model_Privilege_ rfl) rfl (by show 2 * 0 + _ ≤ _; exact Nat.le_of_eq rfl) (hb hby at_27) (fun _ _ => ⟨rfl, e8, (by decide : 0 + 0 ≤ _), (by decide : 0 + 0 ≤ _)⟩)
    dsimp only [Pt.U, Pt.locs, Pt.cells, Pt.slots] at X9 l9 y9 z9 st9 hQ9
    subst l9 y9 z9
    obtain ⟨rfl, N9q, e9⟩ := hQ9
    have N9 := Fr.app N0 N9q
    refine own_go (B := T9.setTop (mkF m 30 (LS_IIRuuu p0 (0 : Int32) w_Privilege_Target_FOLDER) [(.ref (if w_Privilege_Target_FOLDER = w_Privilege_Target_GROUP then w_Privilege_ADMIN else w_Privilege_STEM))])) (fun t k => st9.trans k) ?_
    rw [show (if w_Privilege_Target_FOLDER = w_Privilege_Target_GROUP then w_Privilege_ADMIN else w_Privilege_STEM) = w_Privilege_STEM from if_neg (Fld.ne F_Privilege_Target_FOLDER_ordinal F_Privilege_Target_GROUP_ordinal (by decide))]
    refine own_go (B := T9.setTop (mkF m 49 (LS_IIRRuu p0 (0 : Int32) w_Privilege_Target_FOLDER w_Privilege_STEM) [])) (fun t k => ?_) ?_
    · show Steps p.tables e below (T9.setTop (mkF m 30 (LS_IIRuuu p0 (0 : Int32) w_Privilege_Target_FOLDER) [(.ref w_Privilege_STEM)])) _
      refine XS.astoreN X9.here hx rfl (hb hby at_30) rfl rfl (l' := (LS_IIRRuu p0 (0 : Int32) w_Privilege_Target_FOLDER w_Privilege_STEM)) rfl ?_
      show Steps p.tables e below (T9.setTop (mkF m 31 (LS_IIRRuu p0 (0 : Int32) w_Privilege_Target_FOLDER w_Privilege_STEM) [])) _
      refine XS.aloadN X9.here hx rfl (hb hby at_31) rfl rfl ?_
      show Steps p.tables e below (T9.setTop (mkF m 32 (LS_IIRRuu p0 (0 : Int32) w_Privilege_Target_FOLDER w_Privilege_STEM) [(.ref w_Privilege_STEM)])) _
      refine XS.ifnonnullYes X9.here hx rfl (pc0 := 32) (pc' := 37) rfl (hb hby at_32) rfl (by decide) (by decide) ?_
      show Steps p.tables e below (T9.setTop (mkF m 37 (LS_IIRRuu p0 (0 : Int32) w_Privilege_Target_FOLDER w_Privilege_STEM) [])) _
      refine XS.iloadN X9.here hx rfl (hb hby at_37) rfl ?_
      show Steps p.tables e below (T9.setTop (mkF m 38 (LS_IIRRuu p0 (0 : Int32) w_Privilege_Target_FOLDER w_Privilege_STEM) [(.int (0 : Int32))])) _
      refine XS.ifYes X9.here hx rfl (pc0 := 38) (pc' := 49) rfl (hb hby at_38) rfl ((if0 _ _).trans (teq (by decide : (0 : Int32) = (0 : Int32))).1) (by decide) (by decide) ?_
      exact k
    obtain ⟨T10, X10, e10, st10⟩ := getS2 X9 hx hZ hown (host := "") (Or.inl (hw _ (List.mem_of_getElem? (i := 30) rfl))) Via.refl e9 S_Privilege_STEM (g := (mkF m 49 (LS_IIRRuu p0 (0 : Int32) w_Privilege_Target_FOLDER w_Privilege_STEM) [])) rfl (hb hby at_49)
    refine own_go (B := T10.setTop (mkF m 52 (LS_IIRRuu p0 (0 : Int32) w_Privilege_Target_FOLDER w_Privilege_STEM) [(.ref w_Privilege_STEM)])) (fun t k => st10 _ k) ?_
    refine own_go (B := T10.setTop (mkF m 63 (LS_IIRRRu p0 (0 : Int32) w_Privilege_Target_FOLDER w_Privilege_STEM w_Privilege_STEM) [(.ref w_Privilege_STEM)])) (fun t k => ?_) ?_
    · show Steps p.tables e below (T10.setTop (mkF m 52 (LS_IIRRuu p0 (0 : Int32) w_Privilege_Target_FOLDER w_Privilege_STEM) [(.ref w_Privilege_STEM)])) _
      refine XS.astore X10.here hx rfl (hb hby at_52) rfl rfl (l' := (LS_IIRRRu p0 (0 : Int32) w_Privilege_Target_FOLDER w_Privilege_STEM w_Privilege_STEM)) rfl ?_
      show Steps p.tables e below (T10.setTop (mkF m 54 (LS_IIRRRu p0 (0 : Int32) w_Privilege_Target_FOLDER w_Privilege_STEM w_Privilege_STEM) [])) _
      refine XS.aloadN X10.here hx rfl (hb hby at_54) rfl rfl ?_
      show Steps p.tables e below (T10.setTop (mkF m 55 (LS_IIRRRu p0 (0 : Int32) w_Privilege_Target_FOLDER w_Privilege_STEM w_Privilege_STEM) [(.ref w_Privilege_STEM)])) _
      refine XS.aload X10.here hx rfl (hb hby at_55) rfl rfl ?_
      show Steps p.tables e below (T10.setTop (mkF m 57 (LS_IIRRRu p0 (0 : Int32) w_Privilege_Target_FOLDER w_Privilege_STEM w_Privilege_STEM) [(.ref w_Privilege_STEM), (.ref w_Privilege_STEM)])) _
      refine Jvm.RoadKit.acmp (g := (mkF m 57 (LS_IIRRRu p0 (0 : Int32) w_Privilege_Target_FOLDER w_Privilege_STEM w_Privilege_STEM) [(.ref w_Privilege_STEM), (.ref w_Privilege_STEM)])) X10 hx rfl rfl rfl (pc0 := 57) (pc' := 62) (same := true) rfl (hb hby at_57) rfl (decide_eq_true rfl) (by decide) (by decide) ?_
      show Steps p.tables e below (T10.setTop (mkF m 62 (LS_IIRRRu p0 (0 : Int32) w_Privilege_Target_FOLDER w_Privilege_STEM w_Privilege_STEM) [])) _
      refine XS.aloadN X10.here hx rfl (hb hby at_62) rfl rfl ?_
      exact k
    obtain ⟨cq11, kq11, q11a, q11b, q11c⟩ := isOf hZ e10 E_Privilege_STEM
    obtain ⟨_, _, ⟨T11, L11, k11, n11⟩, -, X11, ⟨Lc11, hQ11, l11, y11, z11⟩, st11⟩ := X10.virtualBack hx (y := (⟨"com/example/rameau/rameau/model/Privilege", "target", "()Lcom/example/rameau/rameau/model/Privilege$Target;"⟩ : MethodName)) (z := (⟨"com/example/rameau/rameau/model/Privilege", "target", "()Lcom/example/rameau/rameau/model/Privilege$Target;"⟩ : MethodName)) hown (mvT hZ (hw _ (List.mem_of_getElem? (i := 13) rfl))) (mvT hZ (hw _ (List.mem_of_getElem? (i := 14) rfl))) (notFace_of_selects (args := #[]) (mvT hZ (hw _ (List.mem_of_getElem? (i := 16) rfl)))) (mvT hZ (hw _ (List.mem_of_getElem? (i := 16) rfl))) (mvT hZ (hw _ (List.mem_of_getElem? (i := 15) rfl))) (by decide) (backOf (W := 0) (rm2 l Z a0 hw [] w_Privilege_STEM w_Privilege_Target_FOLDER h0 n0 Z0 F_Privilege_STEM_target) hZ (hw _ (List.mem_of_getElem? (i := 17) rfl)) (hw _ (List.mem_of_getElem? (i := 10) rfl)) (by decide) (by decide)) q11a q11c (g := (mkF m 63 (LS_IIRRRu p0 (0 : Int32) w_Privilege_Target_FOLDER w_Privilege_STEM w_Privilege_STEM) [(.ref w_Privilege_STEM)])) rfl (by rw [hml]; rfl) (Steps.refl _) (argsL := []) (rest := []) (lenOf pd___Lcom_example_rameau_rameau_model_Privilege_Target_ rfl) rfl (by show 2 * 0 + _ ≤ _; exact Nat.le_of_eq rfl) (hb hby at_63) (fun _ _ => ⟨rfl, e10, (by decide : 0 + 0 ≤ _), (by decide : 0 + 0 ≤ _)⟩)
    dsimp only [Pt.U, Pt.locs, Pt.cells, Pt.slots] at X11 l11 y11 z11 st11 hQ11
    subst l11 y11 z11
    obtain ⟨rfl, N11q, e11⟩ := hQ11
    have N11 := Fr.app N9 N11q
    refine own_go (B := T11.setTop (mkF m 66 (LS_IIRRRu p0 (0 : Int32) w_Privilege_Target_FOLDER w_Privilege_STEM w_Privilege_STEM) [(.ref w_Privilege_Target_FOLDER)])) (fun t k => st11.trans k) ?_
    refine own_go (B := T11.setTop (mkF m 73 (LS_IIRRRu p0 (0 : Int32) w_Privilege_Target_FOLDER w_Privilege_STEM w_Privilege_STEM) [(.ref w_Privilege_Target_FOLDER)])) (fun t k => ?_) ?_
    · show Steps p.tables e below (T11.setTop (mkF m 66 (LS_IIRRRu p0 (0 : Int32) w_Privilege_Target_FOLDER w_Privilege_STEM w_Privilege_STEM) [(.ref w_Privilege_Target_FOLDER)])) _
      refine XS.aloadN X11.here hx rfl (hb hby at_66) rfl rfl ?_
      show Steps p.tables e below (T11.setTop (mkF m 67 (LS_IIRRRu p0 (0 : Int32) w_Privilege_Target_FOLDER w_Privilege_STEM w_Privilege_STEM) [(.ref w_Privilege_Target_FOLDER), (.ref w_Privilege_Target_FOLDER)])) _
      refine Jvm.RoadKit.acmp (g := (mkF m 67 (LS_IIRRRu p0 (0 : Int32) w_Privilege_Target_FOLDER w_Privilege_STEM w_Privilege_STEM) [(.ref w_Privilege_Target_FOLDER), (.ref w_Privilege_Target_FOLDER)])) X11 hx rfl rfl rfl (pc0 := 67) (pc' := 72) (same := true) rfl (hb hby at_67) rfl (decide_eq_true rfl) (by decide) (by decide) ?_
      show Steps p.tables e below (T11.setTop (mkF m 72 (LS_IIRRRu p0 (0 : Int32) w_Privilege_Target_FOLDER w_Privilege_STEM w_Privilege_STEM) [])) _
      refine XS.aloadN X11.here hx rfl (hb hby at_72) rfl rfl ?_
      exact k
    obtain ⟨cq12, kq12, q12a, q12b, q12c⟩ := isOf hZ e11 E_Privilege_Target_FOLDER
    obtain ⟨_, _, ⟨T12, L12, k12, n12⟩, -, X12, ⟨Lc12, hQ12, l12, y12, z12⟩, st12⟩ := X11.virtualBack hx (y := (⟨"com/example/rameau/rameau/model/Privilege$Target", "other", "()Lcom/example/rameau/rameau/model/Privilege$Target;"⟩ : MethodName)) (z := (⟨"com/example/rameau/rameau/model/Privilege$Target", "other", "()Lcom/example/rameau/rameau/model/Privilege$Target;"⟩ : MethodName)) hown (mvT hZ (hw _ (List.mem_of_getElem? (i := 20) rfl))) (mvT hZ (hw _ (List.mem_of_getElem? (i := 21) rfl))) (notFace_of_selects (args := #[]) (mvT hZ (hw _ (List.mem_of_getElem? (i := 23) rfl)))) (mvT hZ (hw _ (List.mem_of_getElem? (i := 23) rfl))) (mvT hZ (hw _ (List.mem_of_getElem? (i := 22) rfl))) (by decide) (backOf (W := 0) (rm3 l Z a0 hw [] w_Privilege_Target_FOLDER w_Privilege_Target_GROUP w_Privilege_Target_FOLDER h0 n0 Z0 S_Privilege_Target_GROUP S_Privilege_Target_FOLDER) hZ (hw _ (List.mem_of_getElem? (i := 24) rfl)) (hw _ (List.mem_of_getElem? (i := 1) rfl)) (by decide) (by decide)) q12a q12c (g := (mkF m 73 (LS_IIRRRu p0 (0 : Int32) w_Privilege_Target_FOLDER w_Privilege_STEM w_Privilege_STEM) [(.ref w_Privilege_Target_FOLDER)])) rfl (by rw [hml]; rfl) (Steps.refl _) (argsL := []) (rest := []) (lenOf pd___Lcom_example_rameau_rameau_model_Privilege_Target_ rfl) rfl (by show 2 * 0 + _ ≤ _; exact Nat.le_of_eq rfl) (hb hby at_73) (fun _ _ => ⟨rfl, e11, (by decide : 0 + 0 ≤ _), (by decide : 0 + 0 ≤ _)⟩)
    dsimp only [Pt.U, Pt.locs, Pt.cells, Pt.slots] at X12 l12 y12 z12 st12 hQ12
    subst l12 y12 z12
    obtain ⟨rfl, N12q, e12⟩ := hQ12
    have N12 := Fr.app N11 N12q
    refine own_go (B := T12.setTop (mkF m 76 (LS_IIRRRu p0 (0 : Int32) w_Privilege_Target_FOLDER w_Privilege_STEM w_Privilege_STEM) [(.ref (if w_Privilege_Target_FOLDER = w_Privilege_Target_GROUP then w_Privilege_Target_FOLDER else w_Privilege_Target_GROUP))])) (fun t k => st12.trans k) ?_
    rw [show (if w_Privilege_Target_FOLDER = w_Privilege_Target_GROUP then w_Privilege_Target_FOLDER else w_Privilege_Target_GROUP) = w_Privilege_Target_GROUP from if_neg (Fld.ne F_Privilege_Target_FOLDER_ordinal F_Privilege_Target_GROUP_ordinal (by decide))]
    obtain ⟨cq13, kq13, q13a, q13b, q13c⟩ := isOf hZ e12 E_Privilege_Target_GROUP
    obtain ⟨_, _, ⟨T13, L13, k13, n13⟩, -, X13, ⟨Lc13, hQ13, l13, y13, z13⟩, st13⟩ := X12.virtualBack hx (y := (⟨"com/example/rameau/rameau/model/Privilege$Target", "granting", "()Lcom/example/rameau/rameau/model/Privilege;"⟩ : MethodName)) (z := (⟨"com/example/rameau/rameau/model/Privilege$Target", "granting", "()Lcom/example/rameau/rameau/model/Privilege;"⟩ : MethodName)) hown (mvT hZ (hw _ (List.mem_of_getElem? (i := 3) rfl))) (mvT hZ (hw _ (List.mem_of_getElem? (i := 4) rfl))) (notFace_of_selects (args := #[]) (mvT hZ (hw _ (List.mem_of_getElem? (i := 6) rfl)))) (mvT hZ (hw _ (List.mem_of_getElem? (i := 6) rfl))) (mvT hZ (hw _ (List.mem_of_getElem? (i := 5) rfl))) (by decide) (backOf (W := 0) (rm1 l Z a0 hw [] w_Privilege_Target_GROUP w_Privilege_Target_GROUP w_Privilege_ADMIN w_Privilege_STEM h0 n0 Z0 S_Privilege_Target_GROUP S_Privilege_ADMIN S_Privilege_STEM) hZ (hw _ (List.mem_of_getElem? (i := 7) rfl)) (hw _ (List.mem_of_getElem? (i := 1) rfl)) (by decide) (by decide)) q13a q13c (g := (mkF m 76 (LS_IIRRRu p0 (0 : Int32) w_Privilege_Target_FOLDER w_Privilege_STEM w_Privilege_STEM) [(.ref w_Privilege_Target_GROUP)])) rfl (by rw [hml]; rfl) (Steps.refl _) (argsL := []) (rest := []) (lenOf pd___Lcom_example_rameau_rameau_model_Privilege_ rfl) rfl (by show 2 * 0 + _ ≤ _; exact Nat.le_of_eq rfl) (hb hby at_76) (fun _ _ => ⟨rfl, e12, (by decide : 0 + 0 ≤ _), (by decide : 0 + 0 ≤ _)⟩)
    dsimp only [Pt.U, Pt.locs, Pt.cells, Pt.slots] at X13 l13 y13 z13 st13 hQ13
    subst l13 y13 z13
    obtain ⟨rfl, N13q, e13⟩ := hQ13
    have N13 := Fr.app N12 N13q
    refine own_go (B := T13.setTop (mkF m 79 (LS_IIRRRu p0 (0 : Int32) w_Privilege_Target_FOLDER w_Privilege_STEM w_Privilege_STEM) [(.ref (if w_Privilege_Target_GROUP = w_Privilege_Target_GROUP then w_Privilege_ADMIN else w_Privilege_STEM))])) (fun t k => st13.trans k) ?_
    rw [show (if w_Privilege_Target_GROUP = w_Privilege_Target_GROUP then w_Privilege_ADMIN else w_Privilege_STEM) = w_Privilege_ADMIN from if_pos rfl]
    refine own_go (B := T13.setTop (mkF m 92 (LS_IIRRRR p0 (0 : Int32) w_Privilege_Target_FOLDER w_Privilege_STEM w_Privilege_STEM w_Privilege_ADMIN) [(.int (1 : Int32))])) (fun t k => ?_) ?_
    · show Steps p.tables e below (T13.setTop (mkF m 79 (LS_IIRRRu p0 (0 : Int32) w_Privilege_Target_FOLDER w_Privilege_STEM w_Privilege_STEM) [(.ref w_Privilege_ADMIN)])) _
      refine XS.astore X13.here hx rfl (hb hby at_79) rfl rfl (l' := (LS_IIRRRR p0 (0 : Int32) w_Privilege_Target_FOLDER w_Privilege_STEM w_Privilege_STEM w_Privilege_ADMIN)) rfl ?_
      show Steps p.tables e below (T13.setTop (mkF m 81 (LS_IIRRRR p0 (0 : Int32) w_Privilege_Target_FOLDER w_Privilege_STEM w_Privilege_STEM w_Privilege_ADMIN) [])) _
      refine XS.aload X13.here hx rfl (hb hby at_81) rfl rfl ?_
      show Steps p.tables e below (T13.setTop (mkF m 83 (LS_IIRRRR p0 (0 : Int32) w_Privilege_Target_FOLDER w_Privilege_STEM w_Privilege_STEM w_Privilege_ADMIN) [(.ref w_Privilege_ADMIN)])) _
      refine XS.aloadN X13.here hx rfl (hb hby at_83) rfl rfl ?_
      show Steps p.tables e below (T13.setTop (mkF m 84 (LS_IIRRRR p0 (0 : Int32) w_Privilege_Target_FOLDER w_Privilege_STEM w_Privilege_STEM w_Privilege_ADMIN) [(.ref w_Privilege_STEM), (.ref w_Privilege_ADMIN)])) _
      refine Jvm.RoadKit.acmp (g := (mkF m 84 (LS_IIRRRR p0 (0 : Int32) w_Privilege_Target_FOLDER w_Privilege_STEM w_Privilege_STEM w_Privilege_ADMIN) [(.ref w_Privilege_STEM), (.ref w_Privilege_ADMIN)])) X13 hx rfl rfl rfl (pc0 := 84) (pc' := 87) (same := false) rfl (hb hby at_84) rfl (decide_eq_false fun q => (Fld.ne F_Privilege_ADMIN_ordinal F_Privilege_STEM_ordinal (by decide)) (Value.ref.inj q)) (by decide) (by decide) ?_
      show Steps p.tables e below (T13.setTop (mkF m 87 (LS_IIRRRR p0 (0 : Int32) w_Privilege_Target_FOLDER w_Privilege_STEM w_Privilege_STEM w_Privilege_ADMIN) [])) _
      refine XS.iconst X13.here hx rfl (hb hby at_87) ?_
      show Steps p.tables e below (T13.setTop (mkF m 88 (LS_IIRRRR p0 (0 : Int32) w_Privilege_Target_FOLDER w_Privilege_STEM w_Privilege_STEM w_Privilege_ADMIN) [(.int (1 : Int32))])) _
      refine XS.goto X13.here hx rfl (pc0 := 88) (pc' := 92) rfl (hb hby at_88) (by decide) (by decide) ?_
      exact k
    obtain ⟨fs, hr, hrun, hended, hW, hsame⟩ := X13.leave (v := some (.int (1 : Int32))) (fun h => by rw [Bd.returns] at h; cases h)
    refine ⟨_, _, ?_, hrun, hended, _, _, rfl, ?_, ⟨_, rfl⟩, hW, hsame.mono (by decide) (by decide)⟩
    · show Steps p.tables e below (T13.setTop (mkF m 92 (LS_IIRRRR p0 (0 : Int32) w_Privilege_Target_FOLDER w_Privilege_STEM w_Privilege_STEM w_Privilege_ADMIN) [(.int (1 : Int32))])) _
      exact retN X13 hx (t := .boolean) Bd.returns (by simp) (hb hby at_92) hr
    · show Q0 Z p0 w_Privilege_Target_GROUP w_Privilege_ADMIN w_Privilege_Target_FOLDER w_Privilege_STEM h0 n0 _ T13.heap _
      rw [e13]
      exact ⟨rfl, N13⟩
set_option maxRecDepth 65536 in
set_option maxHeartbeats 40000000 in
theorem comes_1 {Post : Tables → Env → Array Value → State → Outcome → State → Prop} (hpost : ∀ tb e args s v u, (limb_1_1.after args s (.returned v) u = true ∧ limb_1_2.after args s (.returned v) u = true ∧ True) → FrameEnd s (.returned v) u (Jvm.fieldLocs frame_1_writes args s ++ Jvm.arrayLocs frame_1_arrays args s ++ Jvm.staticLocs frame_1_statics s) 0 0 → Post tb e args s (.returned v) u) :
    ArmFor flags0 classFile x code maxLocals ret World_1 tables_1 room_1 Calls_1 rest_1 Pre_1 Post := by
  intro l hfl _ _ p e ha hc hk s m args below hf hA hF happ hP
  obtain ⟨hcalls, hrest, hpre⟩ := hP
  obtain ⟨-, -, -, hnamed, -, -, -, hat⟩ := (Spec.applies_iff hf).mp happ
  obtain ⟨hg, hn⟩ := and_e (Cond.before_iff.mp (show (Jvm.Cond.and given_1 narrow_1).before args s = true from hpre))
  obtain ⟨g1, g2⟩ := and_e hg
  obtain ⟨w0, rfl⟩ : ∃ w0 : Value, args = #[w0] := by
    have hs : args.size = 1 := by simpa [Cond.value, given_1] using g1
    obtain ⟨L⟩ := args
    match L, hs with
    | [w0], _ => exact ⟨w0, rfl⟩
  have hw := fun d (hd : d ∈ tables_1) => atoms_spec (ws := Jvm.Cond.code x code maxLocals ret :: tables_1) hat d (List.mem_cons_of_mem _ hd)
  have hfit : Fit s := fun {y c} hc i hi => by
    obtain ⟨ha, rfl⟩ := Array.getElem?_eq_some_iff.mp hc
    have q := List.all_eq_true.mp ((Array.all_eq_true_iff_forall_mem.mp hF) _ (Array.getElem_mem ha)) i (List.mem_range.mpr hi)
    simpa [Array.getElem?_eq_getElem hi] using q
  obtain ⟨i0, ei0⟩ := is_v g2
  obtain rfl : w0 = (.int i0) := Option.some.inj ei0
  obtain ⟨g3, g4⟩ := and_e hn
  obtain ⟨w_Privilege_Target_GROUP, ev_Privilege_Target_GROUP⟩ := exa_v g3
  have S_Privilege_Target_GROUP : Sta s s.heap "com/example/rameau/rameau/model/Privilege$Target" "GROUP" "Lcom/example/rameau/rameau/model/Privilege$Target;" (.ref w_Privilege_Target_GROUP) := Sta.start ev_Privilege_Target_GROUP (Or.inr ⟨(hw _ (List.mem_of_getElem? (i := 1) rfl)), (hw _ (List.mem_of_getElem? (i := 2) rfl))⟩)
  have E_Privilege_Target_GROUP : Exa s s.heap w_Privilege_Target_GROUP "com/example/rameau/rameau/model/Privilege$Target" := Exa.start ev_Privilege_Target_GROUP g3
  obtain ⟨g5, g6⟩ := and_e g4
  obtain ⟨w_Privilege_ADMIN, ev_Privilege_ADMIN⟩ := exa_v g5
  have S_Privilege_ADMIN : Sta s s.heap "com/example/rameau/rameau/model/Privilege" "ADMIN" "Lcom/example/rameau/rameau/model/Privilege;" (.ref w_Privilege_ADMIN) := Sta.start ev_Privilege_ADMIN (Or.inr ⟨(hw _ (List.mem_of_getElem? (i := 10) rfl)), (hw _ (List.mem_of_getElem? (i := 11) rfl))⟩)
  have E_Privilege_ADMIN : Exa s s.heap w_Privilege_ADMIN "com/example/rameau/rameau/model/Privilege" := Exa.start ev_Privilege_ADMIN g5
  obtain ⟨g7, g8⟩ := and_e g6
  obtain ⟨g9, g10⟩ := and_e g8
  obtain ⟨w_Privilege_Target_FOLDER, ev_Privilege_Target_FOLDER⟩ := exa_v g9
  have S_Privilege_Target_FOLDER : Sta s s.heap "com/example/rameau/rameau/model/Privilege$Target" "FOLDER" "Lcom/example/rameau/rameau/model/Privilege$Target;" (.ref w_Privilege_Target_FOLDER) := Sta.start ev_Privilege_Target_FOLDER (Or.inr ⟨(hw _ (List.mem_of_getElem? (i := 1) rfl)), (hw _ (List.mem_of_getElem? (i := 26) rfl))⟩)
  have E_Privilege_Target_FOLDER : Exa s s.heap w_Privilege_Target_FOLDER "com/example/rameau/rameau/model/Privilege$Target" := Exa.start ev_Privilege_Target_FOLDER g9
  obtain ⟨g11, g12⟩ := and_e g10
  obtain ⟨g13, g14⟩ := and_e g12
  obtain ⟨g15, g16⟩ := and_e g14
  obtain ⟨w_Privilege_STEM, ev_Privilege_STEM⟩ := exa_v g15
  have S_Privilege_STEM : Sta s s.heap "com/example/rameau/rameau/model/Privilege" "STEM" "Lcom/example/rameau/rameau/model/Privilege;" (.ref w_Privilege_STEM) := Sta.start ev_Privilege_STEM (Or.inr ⟨(hw _ (List.mem_of_getElem? (i := 10) rfl)), (hw _ (List.mem_of_getElem? (i := 28) rfl))⟩)
  have E_Privilege_STEM : Exa s s.heap w_Privilege_STEM "com/example/rameau/rameau/model/Privilege" := Exa.start ev_Privilege_STEM g15
  obtain ⟨g17, g18⟩ := and_e g16
  obtain ⟨g19, g20⟩ := and_e g18
  have F_Privilege_ADMIN_target : Fld s s.heap w_Privilege_ADMIN "com/example/rameau/rameau/model/Privilege" "target" "Lcom/example/rameau/rameau/model/Privilege$Target;" (.ref w_Privilege_Target_GROUP) := Fld.start ((fld_at ev_Privilege_ADMIN).symm.trans (own_eqR g7 ev_Privilege_Target_GROUP))
  have F_Privilege_Target_FOLDER_ordinal : Fld s s.heap w_Privilege_Target_FOLDER "java/lang/Enum" "ordinal" "I" (.int (1 : Int32)) := Fld.start ((fld_at ev_Privilege_Target_FOLDER).symm.trans (own_eqI g11))
  have F_Privilege_Target_GROUP_ordinal : Fld s s.heap w_Privilege_Target_GROUP "java/lang/Enum" "ordinal" "I" (.int (0 : Int32)) := Fld.start ((fld_at ev_Privilege_Target_GROUP).symm.trans (own_eqI g13))
  have F_Privilege_STEM_ordinal : Fld s s.heap w_Privilege_STEM "java/lang/Enum" "ordinal" "I" (.int (4 : Int32)) := Fld.start ((fld_at ev_Privilege_STEM).symm.trans (own_eqI g17))
  have F_Privilege_ADMIN_ordinal : Fld s s.heap w_Privilege_ADMIN "java/lang/Enum" "ordinal" "I" (.int (0 : Int32)) := Fld.start ((fld_at ev_Privilege_ADMIN).symm.trans (own_eqI g19))
  have F_Privilege_STEM_target : Fld s s.heap w_Privilege_STEM "com/example/rameau/rameau/model/Privilege" "target" "Lcom/example/rameau/rameau/model/Privilege$Target;" (.ref w_Privilege_Target_FOLDER) := Fld.start ((fld_at ev_Privilege_STEM).symm.trans (own_eqR g20 ev_Privilege_Target_FOLDER))
  obtain ⟨n, o, h1, h2, h3, _, L, rfl, ⟨rfl, N⟩, hq⟩ := rm0 l s _ hw tables_1 i0 w_Privilege_Target_GROUP w_Privilege_ADMIN w_Privilege_Target_FOLDER w_Privilege_STEM s.heap s.heap.size (Nat.le_refl _) S_Privilege_Target_GROUP E_Privilege_Target_GROUP S_Privilege_ADMIN E_Privilege_ADMIN S_Privilege_Target_FOLDER E_Privilege_Target_FOLDER S_Privilege_STEM E_Privilege_STEM F_Privilege_ADMIN_target F_Privilege_Target_FOLDER_ordinal F_Privilege_Target_GROUP_ordinal F_Privilege_STEM_ordinal F_Privilege_ADMIN_ordinal F_Privilege_STEM_target p e ha hc hk s m _ below hf ((Spec.applies_iff_loose hf).mp happ).1 ⟨rfl, State.Warmed39.refl s, rfl⟩ trivial
  refine ⟨n, _, h1, h2, h3, hpost _ _ _ _ _ _ ⟨Cond.after_iff.mpr rfl, Cond.after_iff.mpr (eq_i res_at (Term.int_eval (1)) rfl), trivial⟩ ⟨hq.1, hq.2.1, (hq.2.2.sift fun y hy => Or.inr (N y hy)).mono (by decide) (by decide)⟩⟩
theorem main_1_1 : Claimed_1_1 := comes_1 fun _ _ _ _ _ _ h hF => ⟨h.1, hF⟩
theorem main_1_2 : Claimed_1_2 := comes_1 fun _ _ _ _ _ _ h hF => ⟨h.2.1, hF⟩
end Jvm.Pilot.@@N@@
namespace Jvm.Pilot.@@N@@
open Jvm Jvm.ClassFile Sem Op Lib Jvm.Free Jvm.Stand Jvm.Pilot.@@N@@.Jvm.D
/-! MADE BY PROGRAM (witnessworld.py) out of the Statement's table words and the real class files: 13 classes; the members and pool entries that the words name. The judged class is class 1, her method 1. -/
namespace start1
open Jvm.ClassFile
def u (s : String) : CpInfo := .utf8 (stringToUtf16 s)
/-- a pool by its gaps: so many unusable entries, then the entry; so many at the end -/
def gap : Nat → List CpInfo → List CpInfo
  | 0, r => r
  | n + 1, r => .unusable :: gap n r
def poolList (es : List (Nat × CpInfo)) (last : Nat) : List CpInfo := es.foldr (fun e r => gap e.1 (e.2 :: r)) (gap last [])
def pool (es : List (Nat × CpInfo)) (last : Nat) : Array CpInfo := ⟨poolList es last⟩
def fileOf (pool : Array CpInfo) (this : Nat) (attrs : Array Attribute := #[]) (ms : Array MethodInfo := #[]) (fl : Nat := 33) (sup : Nat := 0) (ifs : Array Nat := #[]) (fds : Array FieldInfo := #[]) : ClassFile where
  minorVersion := 0
  majorVersion := 65
  constantPool := pool
  accessFlags := fl
  thisClass := this
  superClass := sup
  interfaces := ifs
  fields := fds
  methods := ms
  attributes := attrs
def plain (name : String) (sup : Option ClassId) : Class where
  name := name
  kind := .ordinary
  loader := none
  accessFlags := 33
  super := sup
  interfaces := #[]
  cf := none
  fields := #[]
  methods := #[]
  instanceTypes := #[]
  staticTypes := #[]
  resolved := #[]
  callSites := []
  init := .initialized
  statics := none
  mirror := none

def pool0 : Array CpInfo := pool [(5, u "<init>"), (0, u "()V"), (1, .class_ 10), (1, u "java/lang/Object")] 113

def k0m0 : Method := { name := "<init>", desc := "()V", sig := { parameters := [], returnType := none }, accessFlags := 1, code := none }
/-- java/lang/Object -/
def k0 : Class := { plain "java/lang/Object" none with
  accessFlags := 33
  interfaces := #[]
  cf := some (fileOf pool0 8 #[] #[{ accessFlags := 1, nameIndex := 5, descriptorIndex := 6, attributes := #[] }] 33 0 #[] #[])
  fields := #[]
  methods := #[k0m0]
  instanceTypes := #[]
  staticTypes := #[]
  resolved := Array.replicate 124 none
  statics := none }

def pool1 : Array CpInfo := pool [(2, .class_ 4), (1, u "java/lang/Object"), (0, u "<init>"), (0, u "()V"), (0, .fieldref 8 9), (0, .class_ 10), (0, .nameAndType 11 12), (0, u "com/example/rameau/rameau/model/Privilege$Target"), (0, u "GROUP"), (0, u "Lcom/example/rameau/rameau/model/Privilege$Target;"), (0, .fieldref 8 14), (0, .nameAndType 15 12), (0, u "FOLDER"), (0, .methodref 8 17), (0, .nameAndType 18 19), (0, u "granting"), (0, u "()Lcom/example/rameau/rameau/model/Privilege;"), (0, .fieldref 21 22), (0, .class_ 23), (0, .nameAndType 24 25), (0, u "com/example/rameau/rameau/model/Privilege"), (0, u "ADMIN"), (0, u "Lcom/example/rameau/rameau/model/Privilege;"), (0, .fieldref 21 27), (0, .nameAndType 28 25), (0, u "STEM"), (0, .methodref 21 30), (0, .nameAndType 31 32), (0, u "target"), (0, u "()Lcom/example/rameau/rameau/model/Privilege$Target;"), (0, .methodref 8 34), (0, .nameAndType 35 32), (0, u "other"), (0, .class_ 37), (0, u "com/example/rameau/rameau/model/TargetGrantingPinLaw"), (2, u "law"), (0, u "(I)Z")] 5

def k1m0 : Method := { name := "<init>", desc := "()V", sig := { parameters := [], returnType := none }, accessFlags := 2, code := none }
def k1c1 : Code := { maxStack := 2, maxLocals := 6, code := code, exceptionTable := #[], attributes := #[] }
def k1m1 : Method := { name := "law", desc := "(I)Z", sig := { parameters := [.int], returnType := some .boolean }, accessFlags := 9, code := some k1c1 }
/-- com/example/rameau/rameau/model/TargetGrantingPinLaw -/
def k1 : Class := { plain "com/example/rameau/rameau/model/TargetGrantingPinLaw" (some 0) with
  accessFlags := 49
  interfaces := #[]
  cf := some (fileOf pool1 36 #[] #[{ accessFlags := 2, nameIndex := 5, descriptorIndex := 6, attributes := #[] }, { accessFlags := 9, nameIndex := 40, descriptorIndex := 41, attributes := #[] }] 49 2 #[] #[])
  fields := #[]
  methods := #[k1m0, k1m1]
  instanceTypes := #[]
  staticTypes := #[]
  resolved := Array.replicate 47 none
  statics := none }

def pool2 : Array CpInfo := pool [(1, .class_ 2), (0, u "java/lang/constant/Constable"), (0, .class_ 4), (0, u "java/lang/Object")] 6

/-- java/lang/constant/Constable -/
def k2 : Class := { plain "java/lang/constant/Constable" (some 0) with
  accessFlags := 1537
  interfaces := #[]
  cf := some (fileOf pool2 1 #[] #[] 1537 3 #[] #[])
  fields := #[]
  methods := #[]
  instanceTypes := #[]
  staticTypes := #[]
  resolved := Array.replicate 11 none
  statics := none }

def pool3 : Array CpInfo := pool [(1, .class_ 2), (0, u "java/lang/Comparable"), (0, .class_ 4), (0, u "java/lang/Object")] 7

/-- java/lang/Comparable -/
def k3 : Class := { plain "java/lang/Comparable" (some 0) with
  accessFlags := 1537
  interfaces := #[]
  cf := some (fileOf pool3 1 #[] #[] 1537 3 #[] #[])
  fields := #[]
  methods := #[]
  instanceTypes := #[]
  staticTypes := #[]
  resolved := Array.replicate 12 none
  statics := none }

def pool4 : Array CpInfo := pool [(1, .class_ 2), (0, u "java/io/Serializable"), (0, .class_ 4), (0, u "java/lang/Object")] 2

/-- java/io/Serializable -/
def k4 : Class := { plain "java/io/Serializable" (some 0) with
  accessFlags := 1537
  interfaces := #[]
  cf := some (fileOf pool4 1 #[] #[] 1537 3 #[] #[])
  fields := #[]
  methods := #[]
  instanceTypes := #[]
  staticTypes := #[]
  resolved := Array.replicate 7 none
  statics := none }

def pool5 : Array CpInfo := pool [(2, .class_ 4), (1, u "java/lang/Enum"), (0, u "name"), (0, u "Ljava/lang/String;"), (2, u "ordinal"), (0, u "I"), (1, .class_ 14), (1, u "java/lang/Object"), (4, u "hash"), (86, .class_ 108), (1, u "java/lang/Enum$EnumDesc"), (2, .class_ 112), (0, u "java/lang/constant/Constable"), (0, .class_ 114), (0, u "java/lang/Comparable"), (0, .class_ 116), (0, u "java/io/Serializable")] 87

/-- java/lang/Enum -/
def k5 : Class := { plain "java/lang/Enum" (some 0) with
  accessFlags := 1057
  interfaces := #[2, 3, 4]
  cf := some (fileOf pool5 2 #[.nestMembers #[106]] #[] 1057 12 #[111, 113, 115] #[{ accessFlags := 18, nameIndex := 5, descriptorIndex := 6, attributes := #[] }, { accessFlags := 18, nameIndex := 9, descriptorIndex := 10, attributes := #[] }, { accessFlags := 2, nameIndex := 19, descriptorIndex := 10, attributes := #[] }])
  fields := #[{ name := "name", type := (.object "java/lang/String"), accessFlags := 18, slot := 0, constantValue := 0 }, { name := "ordinal", type := .int, accessFlags := 18, slot := 1, constantValue := 0 }, { name := "hash", type := .int, accessFlags := 2, slot := 2, constantValue := 0 }]
  methods := #[]
  instanceTypes := #[(.object "java/lang/String"), .int, .int]
  staticTypes := #[]
  resolved := Array.replicate 204 none
  statics := none }

def pool6 : Array CpInfo := pool [(1, .class_ 2), (0, u "com/example/rameau/rameau/model/Privilege$Target"), (0, .fieldref 1 4), (0, .nameAndType 5 6), (0, u "GROUP"), (0, u "Lcom/example/rameau/rameau/model/Privilege$Target;"), (0, .fieldref 1 8), (0, .nameAndType 9 6), (0, u "FOLDER"), (2, u "$VALUES"), (0, u "[Lcom/example/rameau/rameau/model/Privilege$Target;"), (6, .class_ 22), (1, u "java/lang/Enum"), (22, .fieldref 46 47), (0, .class_ 48), (0, .nameAndType 49 50), (0, u "com/example/rameau/rameau/model/Privilege"), (0, u "ADMIN"), (0, u "Lcom/example/rameau/rameau/model/Privilege;"), (0, .fieldref 46 52), (0, .nameAndType 53 50), (0, u "STEM"), (15, u "granting"), (0, u "()Lcom/example/rameau/rameau/model/Privilege;"), (1, u "other"), (0, u "()Lcom/example/rameau/rameau/model/Privilege$Target;")] 7

def k6c0 : Code := { maxStack := 2, maxLocals := 1, code := prog_20_method_5_code, exceptionTable := #[], attributes := #[] }
def k6m0 : Method := { name := "granting", desc := "()Lcom/example/rameau/rameau/model/Privilege;", sig := { parameters := [], returnType := some (.object "com/example/rameau/rameau/model/Privilege") }, accessFlags := 1, code := some k6c0 }
def k6c1 : Code := { maxStack := 2, maxLocals := 1, code := prog_20_method_6_code, exceptionTable := #[], attributes := #[] }
def k6m1 : Method := { name := "other", desc := "()Lcom/example/rameau/rameau/model/Privilege$Target;", sig := { parameters := [], returnType := some (.object "com/example/rameau/rameau/model/Privilege$Target") }, accessFlags := 1, code := some k6c1 }
/-- com/example/rameau/rameau/model/Privilege$Target -/
def k6 : Class := { plain "com/example/rameau/rameau/model/Privilege$Target" (some 5) with
  accessFlags := 16433
  interfaces := #[]
  cf := some (fileOf pool6 1 #[.nestHost 46] #[{ accessFlags := 1, nameIndex := 69, descriptorIndex := 70, attributes := #[] }, { accessFlags := 1, nameIndex := 72, descriptorIndex := 73, attributes := #[] }] 16433 20 #[] #[{ accessFlags := 16409, nameIndex := 5, descriptorIndex := 6, attributes := #[] }, { accessFlags := 16409, nameIndex := 9, descriptorIndex := 6, attributes := #[] }, { accessFlags := 4122, nameIndex := 12, descriptorIndex := 13, attributes := #[] }])
  fields := #[{ name := "GROUP", type := (.object "com/example/rameau/rameau/model/Privilege$Target"), accessFlags := 16409, slot := 0, constantValue := 0 }, { name := "FOLDER", type := (.object "com/example/rameau/rameau/model/Privilege$Target"), accessFlags := 16409, slot := 1, constantValue := 0 }, { name := "$VALUES", type := (.array (.object "com/example/rameau/rameau/model/Privilege$Target")), accessFlags := 4122, slot := 2, constantValue := 0 }]
  methods := #[k6m0, k6m1]
  instanceTypes := #[(.object "java/lang/String"), .int, .int]
  staticTypes := #[(.object "com/example/rameau/rameau/model/Privilege$Target"), (.object "com/example/rameau/rameau/model/Privilege$Target"), (.array (.object "com/example/rameau/rameau/model/Privilege$Target"))]
  resolved := Array.replicate 81 none
  statics := some 0 }

def pool7 : Array CpInfo := pool [(1, .class_ 2), (0, u "com/example/rameau/rameau/model/Privilege"), (2, u "ADMIN"), (0, u "Lcom/example/rameau/rameau/model/Privilege;"), (2, u "UPDATE"), (2, u "READ"), (2, u "VIEW"), (2, u "STEM"), (2, u "CREATE"), (2, u "$VALUES"), (0, u "[Lcom/example/rameau/rameau/model/Privilege;"), (6, .class_ 34), (1, u "java/lang/Enum"), (6, .fieldref 1 42), (0, .nameAndType 43 44), (0, u "target"), (0, u "Lcom/example/rameau/rameau/model/Privilege$Target;"), (144, .class_ 191), (1, u "com/example/rameau/rameau/model/Privilege$Target"), (25, u "()Lcom/example/rameau/rameau/model/Privilege$Target;")] 72

def k7c0 : Code := { maxStack := 1, maxLocals := 1, code := prog_19_method_7_code, exceptionTable := #[], attributes := #[] }
def k7m0 : Method := { name := "target", desc := "()Lcom/example/rameau/rameau/model/Privilege$Target;", sig := { parameters := [], returnType := some (.object "com/example/rameau/rameau/model/Privilege$Target") }, accessFlags := 1, code := some k7c0 }
/-- com/example/rameau/rameau/model/Privilege -/
def k7 : Class := { plain "com/example/rameau/rameau/model/Privilege" (some 5) with
  accessFlags := 16433
  interfaces := #[]
  cf := some (fileOf pool7 1 #[.nestMembers #[189]] #[{ accessFlags := 1, nameIndex := 43, descriptorIndex := 217, attributes := #[] }] 16433 32 #[] #[{ accessFlags := 16409, nameIndex := 5, descriptorIndex := 6, attributes := #[] }, { accessFlags := 16409, nameIndex := 9, descriptorIndex := 6, attributes := #[] }, { accessFlags := 16409, nameIndex := 12, descriptorIndex := 6, attributes := #[] }, { accessFlags := 16409, nameIndex := 15, descriptorIndex := 6, attributes := #[] }, { accessFlags := 16409, nameIndex := 18, descriptorIndex := 6, attributes := #[] }, { accessFlags := 16409, nameIndex := 21, descriptorIndex := 6, attributes := #[] }, { accessFlags := 18, nameIndex := 43, descriptorIndex := 44, attributes := #[] }, { accessFlags := 4122, nameIndex := 24, descriptorIndex := 25, attributes := #[] }])
  fields := #[{ name := "ADMIN", type := (.object "com/example/rameau/rameau/model/Privilege"), accessFlags := 16409, slot := 0, constantValue := 0 }, { name := "UPDATE", type := (.object "com/example/rameau/rameau/model/Privilege"), accessFlags := 16409, slot := 1, constantValue := 0 }, { name := "READ", type := (.object "com/example/rameau/rameau/model/Privilege"), accessFlags := 16409, slot := 2, constantValue := 0 }, { name := "VIEW", type := (.object "com/example/rameau/rameau/model/Privilege"), accessFlags := 16409, slot := 3, constantValue := 0 }, { name := "STEM", type := (.object "com/example/rameau/rameau/model/Privilege"), accessFlags := 16409, slot := 4, constantValue := 0 }, { name := "CREATE", type := (.object "com/example/rameau/rameau/model/Privilege"), accessFlags := 16409, slot := 5, constantValue := 0 }, { name := "target", type := (.object "com/example/rameau/rameau/model/Privilege$Target"), accessFlags := 18, slot := 3, constantValue := 0 }, { name := "$VALUES", type := (.array (.object "com/example/rameau/rameau/model/Privilege")), accessFlags := 4122, slot := 6, constantValue := 0 }]
  methods := #[k7m0]
  instanceTypes := #[(.object "java/lang/String"), .int, .int, (.object "com/example/rameau/rameau/model/Privilege$Target")]
  staticTypes := #[(.object "com/example/rameau/rameau/model/Privilege"), (.object "com/example/rameau/rameau/model/Privilege"), (.object "com/example/rameau/rameau/model/Privilege"), (.object "com/example/rameau/rameau/model/Privilege"), (.object "com/example/rameau/rameau/model/Privilege"), (.object "com/example/rameau/rameau/model/Privilege"), (.array (.object "com/example/rameau/rameau/model/Privilege"))]
  resolved := Array.replicate 290 none
  statics := some 1 }

def pool8 : Array CpInfo := pool [(1, u "java/lang/Cloneable"), (0, .class_ 1), (0, u "java/lang/Object"), (0, .class_ 3)] 3

/-- java/lang/Cloneable -/
def k8 : Class := { plain "java/lang/Cloneable" (some 0) with
  accessFlags := 1537
  interfaces := #[]
  cf := some (fileOf pool8 2 #[] #[] 1537 4 #[] #[])
  fields := #[]
  methods := #[]
  instanceTypes := #[]
  staticTypes := #[]
  resolved := Array.replicate 8 none
  statics := none }

/-- the primitive byte -/
def k9 : Class := { plain "byte" none with kind := .primitive 'B', accessFlags := 0x411 }
/-- [B -/
def k10 : Class := { plain "[B" (some 0) with kind := .array 9 .byte, interfaces := #[8, 4], accessFlags := 1041 }

/-- the primitive int -/
def k11 : Class := { plain "int" none with kind := .primitive 'I', accessFlags := 0x411 }
/-- [I -/
def k12 : Class := { plain "[I" (some 0) with kind := .array 11 .int, interfaces := #[8, 4], accessFlags := 1041 }

def heap : Heap := #[{ cls := 6, slots := #[.ref 2, .ref 4, .null], vm := .statics 6 },
  { cls := 7, slots := #[.ref 3, .null, .null, .null, .ref 5, .null, .null], vm := .statics 7 },
  { cls := 6, slots := #[.null, .int 0, .int 0], vm := .none },
  { cls := 7, slots := #[.null, .int 0, .int 0, .ref 2], vm := .none },
  { cls := 6, slots := #[.null, .int 1, .int 0], vm := .none },
  { cls := 7, slots := #[.null, .int 4, .int 0, .ref 4], vm := .none }]
def classes : Array Class := #[k0, k1, k2, k3, k4, k5, k6, k7, k8, k9, k10, k11, k12]
def interned : List (Array UInt16 × Addr) := []
def slotsUsed : Nat := 24
def theMethod : MethodId := ⟨1, 1⟩
def args0 : Array Value := #[.int 5]
def aboutOver (below : List Frame) : State where
  vm := { classes := classes, interned := interned.toArray }
  heap := heap
  slotsUsed := slotsUsed
  threads := #[{ frames := .invoking theMethod args0 :: below }]
def below0 : List Frame := [.native { method := ⟨0, 0⟩, args := #[] }]
def about1 : State := aboutOver below0
def p0 : Program := .bare "" "" ""
def e0 : Env := launch0.env 0 0 0
theorem w_frames : about1.frames = Frame.invoking theMethod args0 :: below0 := rfl
set_option maxRecDepth 65536 in
theorem w_args : argsFit about1.vm theMethod args0 = true := by decide +kernel
set_option maxRecDepth 65536 in
theorem w_heap : heapFits about1 = true := by decide +kernel
set_option maxRecDepth 65536 in
theorem w_runnable : about1.curStatus? = some .runnable := by decide +kernel
set_option maxRecDepth 65536 in
theorem w_alone : about1.alone = true := by decide +kernel
set_option maxRecDepth 65536 in
theorem w_named : about1.methodNamed? x = some theMethod := by decide +kernel
set_option maxRecDepth 65536 in
theorem w_hears : about1.hears theMethod below0 = true := by decide +kernel
set_option maxRecDepth 65536 in
theorem w_ripe : about1.ripe theMethod args0 below0 = true := by decide +kernel
theorem w_running : about1.status = .running := rfl
set_option maxRecDepth 65536 in
theorem w_room : about1.hasRoom e0.platform room_1 = true :=
  launch0.hasRoom_least _ room_1 (by decide +kernel) (by decide +kernel) (by decide +kernel) (by decide +kernel) (by decide +kernel) (by decide +kernel)
theorem allAtoms_all (ts : List Jvm.Cond) (a : Array Jvm.Value) (st : Jvm.State) : (allAtoms ts).before a st = ts.all (fun c => c.before a st) := by
  induction ts with
  | nil => rfl
  | cons c t ih =>
    show (Jvm.Cond.and c (allAtoms t)).before a st = _
    rw [Jvm.Cond.before_and, ih, List.all_cons]
def words1 : List Jvm.Cond := Jvm.Cond.code x code maxLocals ret :: tables_1
/-- a 'code' word, met by the world's own term for the bytes: nothing is compared byte by byte -/
theorem code_word {y : MethodName} {bytes : ByteArray} {mx : Nat} {rt : Option FieldType} {a : Array Value} {s : State} {m : MethodId} {meth : Method} {c : Code} (h1 : s.methodNamed? y = some m) (h2 : s.vm.method? m = some meth) (h3 : meth.code = some c) (h4 : c.code = bytes)
    (h5 : (c.maxLocals == mx && c.exceptionTable.isEmpty && decide (c.maxStack ≤ mostOperands) && decide (meth.sig.returnType = rt) && !meth.locks && decide (parseMethodDescriptor y.desc = some meth.sig)) = true) : (Jvm.Cond.code y bytes mx rt).before a s = true := by
  simp only [Bool.and_eq_true, beq_iff_eq, Bool.not_eq_true', decide_eq_true_eq] at h5
  obtain ⟨⟨⟨⟨⟨g1, g2⟩, g3⟩, g4⟩, g5⟩, g6⟩ := h5
  simp [Cond.before, Cond.holds, Cond.value, h1, h2, h3, h4, g1, g2, g3, g4, g5, g6]
def isCode : Jvm.Cond → Bool
  | .code _ _ _ _ => true
  | _ => false
theorem all_split {L : List Jvm.Cond} {P : Jvm.Cond → Bool} (h1 : L.all (fun c => isCode c || P c) = true) (h2 : ∀ c ∈ L.filter isCode, P c = true) : L.all P = true := by
  refine List.all_eq_true.mpr fun c hc => ?_
  have h := List.all_eq_true.mp h1 c hc
  rcases Bool.eq_false_or_eq_true (isCode c) with hi | hi
  · exact h2 c (List.mem_filter.mpr ⟨hc, hi⟩)
  · simpa [hi] using h
set_option maxRecDepth 65536 in
theorem w_c0 : (Jvm.Cond.code x code maxLocals ret).before args0 about1 = true := code_word (m := ⟨1, 1⟩) (meth := k1m1) (c := k1c1) (by decide +kernel) rfl rfl rfl (by decide +kernel)
set_option maxRecDepth 65536 in
theorem w_c1 : (Jvm.Cond.code ({ cls := "com/example/rameau/rameau/model/Privilege$Target", name := "granting", desc := "()Lcom/example/rameau/rameau/model/Privilege;" } : Jvm.MethodName) prog_20_method_5_code (1 : Nat) (Option.some (Jvm.ClassFile.FieldType.object "com/example/rameau/rameau/model/Privilege"))).before args0 about1 = true := code_word (m := ⟨6, 0⟩) (meth := k6m0) (c := k6c0) (by decide +kernel) rfl rfl rfl (by decide +kernel)
set_option maxRecDepth 65536 in
theorem w_c2 : (Jvm.Cond.code ({ cls := "com/example/rameau/rameau/model/Privilege", name := "target", desc := "()Lcom/example/rameau/rameau/model/Privilege$Target;" } : Jvm.MethodName) prog_19_method_7_code (1 : Nat) (Option.some (Jvm.ClassFile.FieldType.object "com/example/rameau/rameau/model/Privilege$Target"))).before args0 about1 = true := code_word (m := ⟨7, 0⟩) (meth := k7m0) (c := k7c0) (by decide +kernel) rfl rfl rfl (by decide +kernel)
set_option maxRecDepth 65536 in
theorem w_c3 : (Jvm.Cond.code ({ cls := "com/example/rameau/rameau/model/Privilege$Target", name := "other", desc := "()Lcom/example/rameau/rameau/model/Privilege$Target;" } : Jvm.MethodName) prog_20_method_6_code (1 : Nat) (Option.some (Jvm.ClassFile.FieldType.object "com/example/rameau/rameau/model/Privilege$Target"))).before args0 about1 = true := code_word (m := ⟨6, 1⟩) (meth := k6m1) (c := k6c1) (by decide +kernel) rfl rfl rfl (by decide +kernel)
def codes1 : List Jvm.Cond := [Jvm.Cond.code x code maxLocals ret, Jvm.Cond.code ({ cls := "com/example/rameau/rameau/model/Privilege$Target", name := "granting", desc := "()Lcom/example/rameau/rameau/model/Privilege;" } : Jvm.MethodName) prog_20_method_5_code (1 : Nat) (Option.some (Jvm.ClassFile.FieldType.object "com/example/rameau/rameau/model/Privilege")), Jvm.Cond.code ({ cls := "com/example/rameau/rameau/model/Privilege", name := "target", desc := "()Lcom/example/rameau/rameau/model/Privilege$Target;" } : Jvm.MethodName) prog_19_method_7_code (1 : Nat) (Option.some (Jvm.ClassFile.FieldType.object "com/example/rameau/rameau/model/Privilege$Target")), Jvm.Cond.code ({ cls := "com/example/rameau/rameau/model/Privilege$Target", name := "other", desc := "()Lcom/example/rameau/rameau/model/Privilege$Target;" } : Jvm.MethodName) prog_20_method_6_code (1 : Nat) (Option.some (Jvm.ClassFile.FieldType.object "com/example/rameau/rameau/model/Privilege$Target"))]
set_option maxRecDepth 65536 in
theorem codes_eq : words1.filter isCode = codes1 := rfl
theorem w_codes : ∀ c ∈ words1.filter isCode, c.before args0 about1 = true := by
  rw [codes_eq]
  intro c hc
  simp only [codes1, List.mem_cons, List.not_mem_nil, or_false] at hc
  rcases hc with rfl | rfl | rfl | rfl
  · exact w_c0
  · exact w_c1
  · exact w_c2
  · exact w_c3
set_option maxRecDepth 65536 in
theorem w_t1 : (words1.take 24).all (fun c => isCode c || c.before args0 about1) = true := by decide +kernel
set_option maxRecDepth 65536 in
theorem w_t2 : (words1.drop 24).all (fun c => isCode c || c.before args0 about1) = true := by decide +kernel
theorem w_tables : (allAtoms (Jvm.Cond.code x code maxLocals ret :: tables_1)).before args0 about1 = true := by
  rw [allAtoms_all]
  show words1.all (fun c => c.before args0 about1) = true
  refine all_split ?_ w_codes
  rw [← List.take_append_drop 24 words1, List.all_append, w_t1, w_t2]
  rfl
set_option maxRecDepth 65536 in
theorem w_case : (Jvm.Cond.and given_1 narrow_1).before args0 about1 = true := by decide +kernel
theorem w_applies : (headSpec (Jvm.Cond.code x code maxLocals ret :: tables_1) room_1).applies x e0.platform about1 = true :=
  (Spec.applies_iff w_frames).mpr ⟨w_running, w_runnable, w_alone, w_named, w_hears, w_ripe, w_room, w_tables⟩
theorem atStart : AtStart classFile x code maxLocals ret World_1 tables_1 room_1 Calls_1 rest_1 Pre_1 launch0 p0 e0 about1 theMethod args0 below0 :=
  ⟨lists_1, trivial, launch0.admits_env _ _ _, launch0.least_env, fairChoices_fair.cas, fairChoices_fair.clock, w_frames, w_args, w_heap, w_applies, trivial, trivial, w_case⟩
end start1
theorem witness_1 : WitnessClaimed_1 := ⟨start1.p0, start1.e0, start1.about1, start1.theMethod, start1.args0, start1.below0, start1.atStart⟩
end Jvm.Pilot.@@N@@
