import JvmDerived
import JvmDerived.Pilot.@@N@@Statement
import JvmDerived.Pilot.@@N@@Code
set_option linter.unusedVariables false
set_option linter.unusedSimpArgs false
@@BLOCK:NumsL.lean.txt@@
namespace Jvm.Pilot.@@N@@
open Jvm Jvm.ClassFile Sem Op Lib Jvm.Free Jvm.Stand Jvm.LawKit Jvm.RoadKit Bundle Jvm.Pilot.@@N@@.Jvm.D
/-- two roads that come together: the rest is shown once, for every state and value with which they come -/
theorem own_join {p : Program} {l : Launch} {e : Env} {R : Room} {s : State} {m : MethodId} {args : Array Value} {below : List Frame} {meth : Method} {c : Code} {T : State} {locs : List Loc} {cells slots : Nat} {A : State} {P : State → Outcome → Prop}
    (X : Stand p l e R s m args below meth c T locs cells slots) {ι : Type} (Φ : ι → State → Prop) (B : ι → JFrame)
    (rest : ∀ i T', Stand p l e R s m args below meth c T' locs cells slots → Φ i T' → ∃ s₂ o, Steps p.tables e below (T'.setTop (B i)) s₂ ∧ P s₂ o)
    (come : (∀ i T', Stand p l e R s m args below meth c T' locs cells slots → Φ i T' → ∃ s₂ o, Steps p.tables e below (T'.setTop (B i)) s₂ ∧ P s₂ o) → ∃ s₂ o, Steps p.tables e below A s₂ ∧ P s₂ o) : ∃ s₂ o, Steps p.tables e below A s₂ ∧ P s₂ o := come rest
theorem own_joinH {p : Program} {l : Launch} {e : Env} {R : Room} {s : State} {m : MethodId} {args : Array Value} {below : List Frame} {meth : Method} {c : Code} {T : State} {locs : List Loc} {cells slots n0 : Nat} {A : State} {P : State → Outcome → Prop}
    (X : Stand p l e R s m args below meth c T locs cells slots) (N : Fr n0 locs) {ι : Type} (cells' slots' : Nat) (Φ : ι → Heap → Prop) (B : ι → JFrame)
    (rest : ∀ i T' locs', Stand p l e R s m args below meth c T' locs' cells' slots' → Fr n0 locs' → Φ i T'.heap → ∃ s₂ o, Steps p.tables e below (T'.setTop (B i)) s₂ ∧ P s₂ o)
    (come : (∀ i T' locs', Stand p l e R s m args below meth c T' locs' cells' slots' → Fr n0 locs' → Φ i T'.heap → ∃ s₂ o, Steps p.tables e below (T'.setTop (B i)) s₂ ∧ P s₂ o) → ∃ s₂ o, Steps p.tables e below A s₂ ∧ P s₂ o) : ∃ s₂ o, Steps p.tables e below A s₂ ∧ P s₂ o := come rest
theorem own_mono {p : Program} {l : Launch} {e : Env} {R : Room} {s : State} {m : MethodId} {args : Array Value} {below : List Frame} {meth : Method} {c : Code} {T : State} {locs : List Loc} {cells slots cells' slots' : Nat}
    (X : Stand p l e R s m args below meth c T locs cells slots) (h1 : cells ≤ cells') (h2 : slots ≤ slots') : Stand p l e R s m args below meth c T locs cells' slots' := { X with same := X.same.mono h1 h2 }
theorem own_sta_keep {Z : State} {h h' : Heap} {C n d : String} {v : Value} {ws : List Addr} (F : Sta Z h C n d v) (K : Keep h h' ws) (q : ∀ x ∈ ws, ∀ c : Cell, h[x]? = some c → c.vm.isStatics = false) : Sta Z h' C n d v := by
  obtain ⟨cf, i, k, f, st, cell, h1, h2, h3, h4, h5, h6, h7⟩ := F
  refine ⟨cf, i, k, f, st, cell, h1, h2, h3, h4, K.2.1 st cell h5 fun hm => ?_, h6, h7⟩
  rw [q st hm cell h5] at h6
  cases h6
theorem own_plain_E {Z : State} {h : Heap} {a : Addr} {C : String} (F : Exa Z h a C) : ∀ c : Cell, h[a]? = some c → c.vm.isStatics = false := by
  obtain ⟨cell, k, h1, h2, h3, h4, h5⟩ := F
  intro c hc
  cases h1.symm.trans hc
  exact h4
theorem own_plain_V {Z : State} {h : Heap} {a : Addr} {k : ClassId} {ty : FieldType} {n : Int32} {vs : List Value} {d : Value} (F : Arv Z h a k ty n vs d) : ∀ c : Cell, h[a]? = some c → c.vm.isStatics = false := by
  obtain ⟨cell, A, -⟩ := F
  intro c hc
  cases A.1.symm.trans hc
  exact A.plain
/-- a stretch of the road, then the rest -/
theorem own_go {tb : Tables} {e : Env} {below : List Frame} {A B : State} {P : State → Outcome → Prop} (h : ∀ t, Steps tb e below B t → Steps tb e below A t) (k : ∃ s₂ o, Steps tb e below B s₂ ∧ P s₂ o) : ∃ s₂ o, Steps tb e below A s₂ ∧ P s₂ o := by
  obtain ⟨s₂, o, h1, h2⟩ := k
  exact ⟨s₂, o, h s₂ h1, h2⟩
theorem own_eqI {args : Array Value} {first s : State} {o : Option Outcome} {idx : List Nat} {t : Term} {k : Int32} (h : (Jvm.Cond.eq t (.int k)).value args first o s idx = some true) : t.eval args first o idx s = some (.int k) := by
  simp only [Jvm.Cond.value, Term.eval] at h
  cases ht : t.eval args first o idx s with
  | none => simp [ht] at h
  | some x => cases x <;> simp [ht] at h ⊢; exact h
theorem own_eqJ {args : Array Value} {first s : State} {o : Option Outcome} {idx : List Nat} {t : Term} {k : Int64} (h : (Jvm.Cond.eq t (.long k)).value args first o s idx = some true) : t.eval args first o idx s = some (.long k) := by
  simp only [Jvm.Cond.value, Term.eval] at h
  cases ht : t.eval args first o idx s with
  | none => simp [ht] at h
  | some x => cases x <;> simp [ht] at h ⊢; exact h
theorem own_eqR {args : Array Value} {first s : State} {o : Option Outcome} {idx : List Nat} {t u : Term} {a : Addr} (h : (Jvm.Cond.eq t u).value args first o s idx = some true) (hu : u.eval args first o idx s = some (.ref a)) : t.eval args first o idx s = some (.ref a) := by
  simp only [Jvm.Cond.value] at h
  cases ht : t.eval args first o idx s with
  | none => simp [ht] at h
  | some x => cases x <;> simp [ht, hu] at h ⊢; exact h
theorem own_and7 (x : Int32) : x &&& (7 : Int32) = (0 : Int32) ∨ x &&& (7 : Int32) = (1 : Int32) ∨ x &&& (7 : Int32) = (2 : Int32) ∨ x &&& (7 : Int32) = (3 : Int32) ∨ x &&& (7 : Int32) = (4 : Int32) ∨ x &&& (7 : Int32) = (5 : Int32) ∨ x &&& (7 : Int32) = (6 : Int32) ∨ x &&& (7 : Int32) = (7 : Int32) := by
  have h : (x &&& (7 : Int32)).toInt = x.toInt % 2 ^ 3 := Jvm.Kit.i32_mask x 7 (k := 3) (by decide) (by decide)
  simp only [← Int32.toInt_inj, h, Int32.reduceToInt]
  omega
theorem ef_1_0 (m : MethodId)  : entryFrame m #[(.int (0 : Int32))] 1 = mkF m 0 #[.val (.int (0 : Int32))] [] := by first | (simp [entryFrame, mkF, argsToLocals, Value.category]; done) | rfl
theorem pn_1 : plainName "com/example/weighted_scheduler/weightedscheduler/JobStateIsWaitingPinLaw" = true := by first | (simp [plainName, overriddenIn]; done) | decide +kernel
abbrev LS_I (a0 : Int32) : Array Slot := #[.val (.int a0)]
theorem d1_0 : decode method_2_code 0 = .ok (.iload_n 0, 1) := by decide +kernel
theorem d1_1 : decode method_2_code 1 = .ok (.ifCond .ne 7, 3) := by decide +kernel
theorem d1_4 : decode method_2_code 4 = .ok (.getstatic 7, 3) := by decide +kernel
theorem d1_7 : decode method_2_code 7 = .ok (.areturn, 1) := by decide +kernel
def Q1_0 (Z : State) (w0 : Addr) (h0 : Heap) (n0 : Nat) (v : Option Value) (h : Heap) (L : List Loc) : Prop := v = some (.ref w0) ∧ Fr n0 L ∧ h = h0
set_option maxRecDepth 65536 in
set_option maxHeartbeats 40000000 in
theorem rm1_0 (l : Launch) (Z : State) (a0 : Array Value) (hw : ∀ d ∈ tables_1, d.before a0 Z = true) (ws : List Jvm.Cond) (w0 : Addr) (h0 : Heap) (n0 : Nat) (Z0 : n0 ≤ h0.size) (S0 : Sta Z h0 "com/example/weighted_scheduler/weightedscheduler/JobState" "SCHEDULED" "Lcom/example/weighted_scheduler/weightedscheduler/JobState;" (.ref w0)) :
    MetFree l (⟨"com/example/weighted_scheduler/weightedscheduler/JobStateIsWaitingPinLaw", "pick", "(I)Lcom/example/weighted_scheduler/weightedscheduler/JobState;"⟩ : MethodName) (head1 (Jvm.Cond.code (⟨"com/example/weighted_scheduler/weightedscheduler/JobStateIsWaitingPinLaw", "pick", "(I)Lcom/example/weighted_scheduler/weightedscheduler/JobState;"⟩ : MethodName) method_2_code 1 (some (.object "com/example/weighted_scheduler/weightedscheduler/JobState")) :: ws) ({ frames := 0, cells := 0, slots := 0, locals := 0 } : Room)) (fun a U => a = #[(.int (0 : Int32))] ∧ Z.Warmed39 U.vm ∧ U.heap = h0) (fun _ _ _ _ _ => True) (fun _ U o U' => ∃ v L, o = .returned v ∧ Q1_0 Z w0 h0 n0 v U'.heap L ∧ FrameEnd U o U' L ({ frames := 0, cells := 0, slots := 0, locals := 0 } : Room).cells ({ frames := 0, cells := 0, slots := 0, locals := 0 } : Room).slots) := by
  refine MetFree.of_bodySF (plainFor_of_name pn_1) hisR ?_
  intro p e s m args below meth c s₁ Bd hml0 hP hK
  obtain ⟨rfl, hZ, hh⟩ := hP
  have hx := Bd.exec
  have hby := Bd.bytes
  have hml : c.maxLocals = 1 := hml0
  have hown : s.vm.findClass "com/example/weighted_scheduler/weightedscheduler/JobStateIsWaitingPinLaw" = some m.cls := findClass_of_methodNamed Bd.named
  have hnm := (name_of_methodNamed Bd.named Bd.method).1
  have X0 : Stand p l e ({ frames := 0, cells := 0, slots := 0, locals := 0 } : Room) s m #[(.int (0 : Int32))] below meth c s₁ [] 0 0 := Stand.of_body Bd
  have e0 : s₁.heap = h0 := by rw [← hh, Bd.state]; rfl
  have N0 := Fr.nil n0
  refine own_go (B := s₁.setTop (mkF m 0 (LS_I (0 : Int32)) [])) (fun t k => castTop (ef_1_0 m ) k) ?_
  refine own_go (B := s₁.setTop (mkF m 4 (LS_I (0 : Int32)) [])) (fun t k => ?_) ?_
  · show Steps p.tables e below (s₁.setTop (mkF m 0 (LS_I (0 : Int32)) [])) _
    refine XS.iloadN X0.here hx rfl (hb hby d1_0) rfl ?_
    show Steps p.tables e below (s₁.setTop (mkF m 1 (LS_I (0 : Int32)) [(.int (0 : Int32))])) _
    refine XS.ifNo X0.here hx rfl (hb hby d1_1) rfl ((if0 _ _).trans (teq (by decide : (0 : Int32) = (0 : Int32))).2) ?_
    exact k
  obtain ⟨T1, X1, e1, st1⟩ := getS2 X0 hx hZ hown (host := "") (Or.inl (hw _ (List.mem_of_getElem? (i := 4) rfl))) Via.refl e0 S0 (g := (mkF m 4 (LS_I (0 : Int32)) [])) rfl (hb hby d1_4)
  refine own_go (B := T1.setTop (mkF m 7 (LS_I (0 : Int32)) [(.ref w0)])) (fun t k => st1 _ k) ?_
  obtain ⟨fs, hr, hrun, hended, hW, hsame⟩ := X1.leave (v := some (.ref w0)) (fun h => by rw [Bd.returns] at h; cases h)
  refine ⟨_, _, ?_, hrun, hended, _, _, rfl, ?_, ⟨_, rfl⟩, hW, hsame.mono (by decide) (by decide)⟩
  · show Steps p.tables e below (T1.setTop (mkF m 7 (LS_I (0 : Int32)) [(.ref w0)])) _
    exact retOut X1 hx Bd.returns rfl (Or.inr (Or.inr (Or.inr (Or.inr ⟨rfl, rfl, rfl⟩)))) (hb hby d1_7) hr
  · show Q1_0 Z w0 h0 n0 _ T1.heap _
    rw [e1]
    exact ⟨rfl, N0, rfl⟩
theorem ef_1_1 (m : MethodId)  : entryFrame m #[(.int (1 : Int32))] 1 = mkF m 0 #[.val (.int (1 : Int32))] [] := by first | (simp [entryFrame, mkF, argsToLocals, Value.category]; done) | rfl
theorem d1_8 : decode method_2_code 8 = .ok (.iload_n 0, 1) := by decide +kernel
theorem d1_9 : decode method_2_code 9 = .ok (.iconst 1, 1) := by decide +kernel
theorem d1_10 : decode method_2_code 10 = .ok (.if_icmp .ne 7, 3) := by decide +kernel
theorem d1_13 : decode method_2_code 13 = .ok (.getstatic 13, 3) := by decide +kernel
theorem d1_16 : decode method_2_code 16 = .ok (.areturn, 1) := by decide +kernel
def Q1_1 (Z : State) (w0 : Addr) (h0 : Heap) (n0 : Nat) (v : Option Value) (h : Heap) (L : List Loc) : Prop := v = some (.ref w0) ∧ Fr n0 L ∧ h = h0
set_option maxRecDepth 65536 in
set_option maxHeartbeats 40000000 in
theorem rm1_1 (l : Launch) (Z : State) (a0 : Array Value) (hw : ∀ d ∈ tables_1, d.before a0 Z = true) (ws : List Jvm.Cond) (w0 : Addr) (h0 : Heap) (n0 : Nat) (Z0 : n0 ≤ h0.size) (S0 : Sta Z h0 "com/example/weighted_scheduler/weightedscheduler/JobState" "QUEUED" "Lcom/example/weighted_scheduler/weightedscheduler/JobState;" (.ref w0)) :
    MetFree l (⟨"com/example/weighted_scheduler/weightedscheduler/JobStateIsWaitingPinLaw", "pick", "(I)Lcom/example/weighted_scheduler/weightedscheduler/JobState;"⟩ : MethodName) (head1 (Jvm.Cond.code (⟨"com/example/weighted_scheduler/weightedscheduler/JobStateIsWaitingPinLaw", "pick", "(I)Lcom/example/weighted_scheduler/weightedscheduler/JobState;"⟩ : MethodName) method_2_code 1 (some (.object "com/example/weighted_scheduler/weightedscheduler/JobState")) :: ws) ({ frames := 0, cells := 0, slots := 0, locals := 0 } : Room)) (fun a U => a = #[(.int (1 : Int32))] ∧ Z.Warmed39 U.vm ∧ U.heap = h0) (fun _ _ _ _ _ => True) (fun _ U o U' => ∃ v L, o = .returned v ∧ Q1_1 Z w0 h0 n0 v U'.heap L ∧ FrameEnd U o U' L ({ frames := 0, cells := 0, slots := 0, locals := 0 } : Room).cells ({ frames := 0, cells := 0, slots := 0, locals := 0 } : Room).slots) := by
  refine MetFree.of_bodySF (plainFor_of_name pn_1) hisR ?_
  intro p e s m args below meth c s₁ Bd hml0 hP hK
  obtain ⟨rfl, hZ, hh⟩ := hP
  have hx := Bd.exec
  have hby := Bd.bytes
  have hml : c.maxLocals = 1 := hml0
  have hown : s.vm.findClass "com/example/weighted_scheduler/weightedscheduler/JobStateIsWaitingPinLaw" = some m.cls := findClass_of_methodNamed Bd.named
  have hnm := (name_of_methodNamed Bd.named Bd.method).1
  have X0 : Stand p l e ({ frames := 0, cells := 0, slots := 0, locals := 0 } : Room) s m #[(.int (1 : Int32))] below meth c s₁ [] 0 0 := Stand.of_body Bd
  have e0 : s₁.heap = h0 := by rw [← hh, Bd.state]; rfl
  have N0 := Fr.nil n0
  refine own_go (B := s₁.setTop (mkF m 0 (LS_I (1 : Int32)) [])) (fun t k => castTop (ef_1_1 m ) k) ?_
  refine own_go (B := s₁.setTop (mkF m 13 (LS_I (1 : Int32)) [])) (fun t k => ?_) ?_
  · show Steps p.tables e below (s₁.setTop (mkF m 0 (LS_I (1 : Int32)) [])) _
    refine XS.iloadN X0.here hx rfl (hb hby d1_0) rfl ?_
    show Steps p.tables e below (s₁.setTop (mkF m 1 (LS_I (1 : Int32)) [(.int (1 : Int32))])) _
    refine XS.ifYes X0.here hx rfl (pc0 := 1) (pc' := 8) rfl (hb hby d1_1) rfl ((if0 _ _).trans (feq (by decide : ¬ ((1 : Int32) = (0 : Int32)))).2) (by decide) (by decide) ?_
    show Steps p.tables e below (s₁.setTop (mkF m 8 (LS_I (1 : Int32)) [])) _
    refine XS.iloadN X0.here hx rfl (hb hby d1_8) rfl ?_
    show Steps p.tables e below (s₁.setTop (mkF m 9 (LS_I (1 : Int32)) [(.int (1 : Int32))])) _
    refine XS.iconst X0.here hx rfl (hb hby d1_9) ?_
    show Steps p.tables e below (s₁.setTop (mkF m 10 (LS_I (1 : Int32)) [(.int (1 : Int32)), (.int (1 : Int32))])) _
    refine XS.icmpNo X0.here hx rfl (hb hby d1_10) rfl (teq (by decide : (1 : Int32) = (1 : Int32))).2 ?_
    exact k
  obtain ⟨T1, X1, e1, st1⟩ := getS2 X0 hx hZ hown (host := "") (Or.inl (hw _ (List.mem_of_getElem? (i := 32) rfl))) Via.refl e0 S0 (g := (mkF m 13 (LS_I (1 : Int32)) [])) rfl (hb hby d1_13)
  refine own_go (B := T1.setTop (mkF m 16 (LS_I (1 : Int32)) [(.ref w0)])) (fun t k => st1 _ k) ?_
  obtain ⟨fs, hr, hrun, hended, hW, hsame⟩ := X1.leave (v := some (.ref w0)) (fun h => by rw [Bd.returns] at h; cases h)
  refine ⟨_, _, ?_, hrun, hended, _, _, rfl, ?_, ⟨_, rfl⟩, hW, hsame.mono (by decide) (by decide)⟩
  · show Steps p.tables e below (T1.setTop (mkF m 16 (LS_I (1 : Int32)) [(.ref w0)])) _
    exact retOut X1 hx Bd.returns rfl (Or.inr (Or.inr (Or.inr (Or.inr ⟨rfl, rfl, rfl⟩)))) (hb hby d1_16) hr
  · show Q1_1 Z w0 h0 n0 _ T1.heap _
    rw [e1]
    exact ⟨rfl, N0, rfl⟩
theorem ef_1_2 (m : MethodId)  : entryFrame m #[(.int (2 : Int32))] 1 = mkF m 0 #[.val (.int (2 : Int32))] [] := by first | (simp [entryFrame, mkF, argsToLocals, Value.category]; done) | rfl
theorem d1_17 : decode method_2_code 17 = .ok (.iload_n 0, 1) := by decide +kernel
theorem d1_18 : decode method_2_code 18 = .ok (.iconst 2, 1) := by decide +kernel
theorem d1_19 : decode method_2_code 19 = .ok (.if_icmp .ne 7, 3) := by decide +kernel
theorem d1_22 : decode method_2_code 22 = .ok (.getstatic 16, 3) := by decide +kernel
theorem d1_25 : decode method_2_code 25 = .ok (.areturn, 1) := by decide +kernel
def Q1_2 (Z : State) (w0 : Addr) (h0 : Heap) (n0 : Nat) (v : Option Value) (h : Heap) (L : List Loc) : Prop := v = some (.ref w0) ∧ Fr n0 L ∧ h = h0
set_option maxRecDepth 65536 in
set_option maxHeartbeats 40000000 in
theorem rm1_2 (l : Launch) (Z : State) (a0 : Array Value) (hw : ∀ d ∈ tables_1, d.before a0 Z = true) (ws : List Jvm.Cond) (w0 : Addr) (h0 : Heap) (n0 : Nat) (Z0 : n0 ≤ h0.size) (S0 : Sta Z h0 "com/example/weighted_scheduler/weightedscheduler/JobState" "LEASED" "Lcom/example/weighted_scheduler/weightedscheduler/JobState;" (.ref w0)) :
    MetFree l (⟨"com/example/weighted_scheduler/weightedscheduler/JobStateIsWaitingPinLaw", "pick", "(I)Lcom/example/weighted_scheduler/weightedscheduler/JobState;"⟩ : MethodName) (head1 (Jvm.Cond.code (⟨"com/example/weighted_scheduler/weightedscheduler/JobStateIsWaitingPinLaw", "pick", "(I)Lcom/example/weighted_scheduler/weightedscheduler/JobState;"⟩ : MethodName) method_2_code 1 (some (.object "com/example/weighted_scheduler/weightedscheduler/JobState")) :: ws) ({ frames := 0, cells := 0, slots := 0, locals := 0 } : Room)) (fun a U => a = #[(.int (2 : Int32))] ∧ Z.Warmed39 U.vm ∧ U.heap = h0) (fun _ _ _ _ _ => True) (fun _ U o U' => ∃ v L, o = .returned v ∧ Q1_2 Z w0 h0 n0 v U'.heap L ∧ FrameEnd U o U' L ({ frames := 0, cells := 0, slots := 0, locals := 0 } : Room).cells ({ frames := 0, cells := 0, slots := 0, locals := 0 } : Room).slots) := by
  refine MetFree.of_bodySF (plainFor_of_name pn_1) hisR ?_
  intro p e s m args below meth c s₁ Bd hml0 hP hK
  obtain ⟨rfl, hZ, hh⟩ := hP
  have hx := Bd.exec
  have hby := Bd.bytes
  have hml : c.maxLocals = 1 := hml0
  have hown : s.vm.findClass "com/example/weighted_scheduler/weightedscheduler/JobStateIsWaitingPinLaw" = some m.cls := findClass_of_methodNamed Bd.named
  have hnm := (name_of_methodNamed Bd.named Bd.method).1
  have X0 : Stand p l e ({ frames := 0, cells := 0, slots := 0, locals := 0 } : Room) s m #[(.int (2 : Int32))] below meth c s₁ [] 0 0 := Stand.of_body Bd
  have e0 : s₁.heap = h0 := by rw [← hh, Bd.state]; rfl
  have N0 := Fr.nil n0
  refine own_go (B := s₁.setTop (mkF m 0 (LS_I (2 : Int32)) [])) (fun t k => castTop (ef_1_2 m ) k) ?_
  refine own_go (B := s₁.setTop (mkF m 22 (LS_I (2 : Int32)) [])) (fun t k => ?_) ?_
  · show Steps p.tables e below (s₁.setTop (mkF m 0 (LS_I (2 : Int32)) [])) _
    refine XS.iloadN X0.here hx rfl (hb hby d1_0) rfl ?_
    show Steps p.tables e below (s₁.setTop (mkF m 1 (LS_I (2 : Int32)) [(.int (2 : Int32))])) _
    refine XS.ifYes X0.here hx rfl (pc0 := 1) (pc' := 8) rfl (hb hby d1_1) rfl ((if0 _ _).trans (feq (by decide : ¬ ((2 : Int32) = (0 : Int32)))).2) (by decide) (by decide) ?_
    show Steps p.tables e below (s₁.setTop (mkF m 8 (LS_I (2 : Int32)) [])) _
    refine XS.iloadN X0.here hx rfl (hb hby d1_8) rfl ?_
    show Steps p.tables e below (s₁.setTop (mkF m 9 (LS_I (2 : Int32)) [(.int (2 : Int32))])) _
    refine XS.iconst X0.here hx rfl (hb hby d1_9) ?_
    show Steps p.tables e below (s₁.setTop (mkF m 10 (LS_I (2 : Int32)) [(.int (1 : Int32)), (.int (2 : Int32))])) _
    refine XS.icmpYes X0.here hx rfl (pc0 := 10) (pc' := 17) rfl (hb hby d1_10) rfl (feq (by decide : ¬ ((2 : Int32) = (1 : Int32)))).2 (by decide) (by decide) ?_
    show Steps p.tables e below (s₁.setTop (mkF m 17 (LS_I (2 : Int32)) [])) _
    refine XS.iloadN X0.here hx rfl (hb hby d1_17) rfl ?_
    show Steps p.tables e below (s₁.setTop (mkF m 18 (LS_I (2 : Int32)) [(.int (2 : Int32))])) _
    refine XS.iconst X0.here hx rfl (hb hby d1_18) ?_
    show Steps p.tables e below (s₁.setTop (mkF m 19 (LS_I (2 : Int32)) [(.int (2 : Int32)), (.int (2 : Int32))])) _
    refine XS.icmpNo X0.here hx rfl (hb hby d1_19) rfl (teq (by decide : (2 : Int32) = (2 : Int32))).2 ?_
    exact k
  obtain ⟨T1, X1, e1, st1⟩ := getS2 X0 hx hZ hown (host := "") (Or.inl (hw _ (List.mem_of_getElem? (i := 30) rfl))) Via.refl e0 S0 (g := (mkF m 22 (LS_I (2 : Int32)) [])) rfl (hb hby d1_22)
  refine own_go (B := T1.setTop (mkF m 25 (LS_I (2 : Int32)) [(.ref w0)])) (fun t k => st1 _ k) ?_
  obtain ⟨fs, hr, hrun, hended, hW, hsame⟩ := X1.leave (v := some (.ref w0)) (fun h => by rw [Bd.returns] at h; cases h)
  refine ⟨_, _, ?_, hrun, hended, _, _, rfl, ?_, ⟨_, rfl⟩, hW, hsame.mono (by decide) (by decide)⟩
  · show Steps p.tables e below (T1.setTop (mkF m 25 (LS_I (2 : Int32)) [(.ref w0)])) _
    exact retOut X1 hx Bd.returns rfl (Or.inr (Or.inr (Or.inr (Or.inr ⟨rfl, rfl, rfl⟩)))) (hb hby d1_25) hr
  · show Q1_2 Z w0 h0 n0 _ T1.heap _
    rw [e1]
    exact ⟨rfl, N0, rfl⟩
theorem ef_1_3 (m : MethodId)  : entryFrame m #[(.int (3 : Int32))] 1 = mkF m 0 #[.val (.int (3 : Int32))] [] := by first | (simp [entryFrame, mkF, argsToLocals, Value.category]; done) | rfl
theorem d1_26 : decode method_2_code 26 = .ok (.iload_n 0, 1) := by decide +kernel
theorem d1_27 : decode method_2_code 27 = .ok (.iconst 3, 1) := by decide +kernel
theorem d1_28 : decode method_2_code 28 = .ok (.if_icmp .ne 7, 3) := by decide +kernel
theorem d1_31 : decode method_2_code 31 = .ok (.getstatic 19, 3) := by decide +kernel
theorem d1_34 : decode method_2_code 34 = .ok (.areturn, 1) := by decide +kernel
def Q1_3 (Z : State) (w0 : Addr) (h0 : Heap) (n0 : Nat) (v : Option Value) (h : Heap) (L : List Loc) : Prop := v = some (.ref w0) ∧ Fr n0 L ∧ h = h0
set_option maxRecDepth 65536 in
set_option maxHeartbeats 40000000 in
theorem rm1_3 (l : Launch) (Z : State) (a0 : Array Value) (hw : ∀ d ∈ tables_1, d.before a0 Z = true) (ws : List Jvm.Cond) (w0 : Addr) (h0 : Heap) (n0 : Nat) (Z0 : n0 ≤ h0.size) (S0 : Sta Z h0 "com/example/weighted_scheduler/weightedscheduler/JobState" "SUCCEEDED" "Lcom/example/weighted_scheduler/weightedscheduler/JobState;" (.ref w0)) :
    MetFree l (⟨"com/example/weighted_scheduler/weightedscheduler/JobStateIsWaitingPinLaw", "pick", "(I)Lcom/example/weighted_scheduler/weightedscheduler/JobState;"⟩ : MethodName) (head1 (Jvm.Cond.code (⟨"com/example/weighted_scheduler/weightedscheduler/JobStateIsWaitingPinLaw", "pick", "(I)Lcom/example/weighted_scheduler/weightedscheduler/JobState;"⟩ : MethodName) method_2_code 1 (some (.object "com/example/weighted_scheduler/weightedscheduler/JobState")) :: ws) ({ frames := 0, cells := 0, slots := 0, locals := 0 } : Room)) (fun a U => a = #[(.int (3 : Int32))] ∧ Z.Warmed39 U.vm ∧ U.heap = h0) (fun _ _ _ _ _ => True) (fun _ U o U' => ∃ v L, o = .returned v ∧ Q1_3 Z w0 h0 n0 v U'.heap L ∧ FrameEnd U o U' L ({ frames := 0, cells := 0, slots := 0, locals := 0 } : Room).cells ({ frames := 0, cells := 0, slots := 0, locals := 0 } : Room).slots) := by
  refine MetFree.of_bodySF (plainFor_of_name pn_1) hisR ?_
  intro p e s m args below meth c s₁ Bd hml0 hP hK
  obtain ⟨rfl, hZ, hh⟩ := hP
  have hx := Bd.exec
  have hby := Bd.bytes
  have hml : c.maxLocals = 1 := hml0
  have hown : s.vm.findClass "com/example/weighted_scheduler/weightedscheduler/JobStateIsWaitingPinLaw" = some m.cls := findClass_of_methodNamed Bd.named
  have hnm := (name_of_methodNamed Bd.named Bd.method).1
  have X0 : Stand p l e ({ frames := 0, cells := 0, slots := 0, locals := 0 } : Room) s m #[(.int (3 : Int32))] below meth c s₁ [] 0 0 := Stand.of_body Bd
  have e0 : s₁.heap = h0 := by rw [← hh, Bd.state]; rfl
  have N0 := Fr.nil n0
  refine own_go (B := s₁.setTop (mkF m 0 (LS_I (3 : Int32)) [])) (fun t k => castTop (ef_1_3 m ) k) ?_
  refine own_go (B := s₁.setTop (mkF m 31 (LS_I (3 : Int32)) [])) (fun t k => ?_) ?_
  · show Steps p.tables e below (s₁.setTop (mkF m 0 (LS_I (3 : Int32)) [])) _
    refine XS.iloadN X0.here hx rfl (hb hby d1_0) rfl ?_
    show Steps p.tables e below (s₁.setTop (mkF m 1 (LS_I (3 : Int32)) [(.int (3 : Int32))])) _
    refine XS.ifYes X0.here hx rfl (pc0 := 1) (pc' := 8) rfl (hb hby d1_1) rfl ((if0 _ _).trans (feq (by decide : ¬ ((3 : Int32) = (0 : Int32)))).2) (by decide) (by decide) ?_
    show Steps p.tables e below (s₁.setTop (mkF m 8 (LS_I (3 : Int32)) [])) _
    refine XS.iloadN X0.here hx rfl (hb hby d1_8) rfl ?_
    show Steps p.tables e below (s₁.setTop (mkF m 9 (LS_I (3 : Int32)) [(.int (3 : Int32))])) _
    refine XS.iconst X0.here hx rfl (hb hby d1_9) ?_
    show Steps p.tables e below (s₁.setTop (mkF m 10 (LS_I (3 : Int32)) [(.int (1 : Int32)), (.int (3 : Int32))])) _
    refine XS.icmpYes X0.here hx rfl (pc0 := 10) (pc' := 17) rfl (hb hby d1_10) rfl (feq (by decide : ¬ ((3 : Int32) = (1 : Int32)))).2 (by decide) (by decide) ?_
    show Steps p.tables e below (s₁.setTop (mkF m 17 (LS_I (3 : Int32)) [])) _
    refine XS.iloadN X0.here hx rfl (hb hby d1_17) rfl ?_
    show Steps p.tables e below (s₁.setTop (mkF m 18 (LS_I (3 : Int32)) [(.int (3 : Int32))])) _
    refine XS.iconst X0.here hx rfl (hb hby d1_18) ?_
    show Steps p.tables e below (s₁.setTop (mkF m 19 (LS_I (3 : Int32)) [(.int (2 : Int32)), (.int (3 : Int32))])) _
    refine XS.icmpYes X0.here hx rfl (pc0 := 19) (pc' := 26) rfl (hb hby d1_19) rfl (feq (by decide : ¬ ((3 : Int32) = (2 : Int32)))).2 (by decide) (by decide) ?_
    show Steps p.tables e below (s₁.setTop (mkF m 26 (LS_I (3 : Int32)) [])) _
    refine XS.iloadN X0.here hx rfl (hb hby d1_26) rfl ?_
    show Steps p.tables e below (s₁.setTop (mkF m 27 (LS_I (3 : Int32)) [(.int (3 : Int32))])) _
    refine XS.iconst X0.here hx rfl (hb hby d1_27) ?_
    show Steps p.tables e below (s₁.setTop (mkF m 28 (LS_I (3 : Int32)) [(.int (3 : Int32)), (.int (3 : Int32))])) _
    refine XS.icmpNo X0.here hx rfl (hb hby d1_28) rfl (teq (by decide : (3 : Int32) = (3 : Int32))).2 ?_
    exact k
  obtain ⟨T1, X1, e1, st1⟩ := getS2 X0 hx hZ hown (host := "") (Or.inl (hw _ (List.mem_of_getElem? (i := 20) rfl))) Via.refl e0 S0 (g := (mkF m 31 (LS_I (3 : Int32)) [])) rfl (hb hby d1_31)
  refine own_go (B := T1.setTop (mkF m 34 (LS_I (3 : Int32)) [(.ref w0)])) (fun t k => st1 _ k) ?_
  obtain ⟨fs, hr, hrun, hended, hW, hsame⟩ := X1.leave (v := some (.ref w0)) (fun h => by rw [Bd.returns] at h; cases h)
  refine ⟨_, _, ?_, hrun, hended, _, _, rfl, ?_, ⟨_, rfl⟩, hW, hsame.mono (by decide) (by decide)⟩
  · show Steps p.tables e below (T1.setTop (mkF m 34 (LS_I (3 : Int32)) [(.ref w0)])) _
    exact retOut X1 hx Bd.returns rfl (Or.inr (Or.inr (Or.inr (Or.inr ⟨rfl, rfl, rfl⟩)))) (hb hby d1_34) hr
  · show Q1_3 Z w0 h0 n0 _ T1.heap _
    rw [e1]
    exact ⟨rfl, N0, rfl⟩
theorem ef_1_4 (m : MethodId)  : entryFrame m #[(.int (4 : Int32))] 1 = mkF m 0 #[.val (.int (4 : Int32))] [] := by first | (simp [entryFrame, mkF, argsToLocals, Value.category]; done) | rfl
theorem d1_35 : decode method_2_code 35 = .ok (.iload_n 0, 1) := by decide +kernel
theorem d1_36 : decode method_2_code 36 = .ok (.iconst 4, 1) := by decide +kernel
theorem d1_37 : decode method_2_code 37 = .ok (.if_icmp .ne 7, 3) := by decide +kernel
theorem d1_40 : decode method_2_code 40 = .ok (.getstatic 22, 3) := by decide +kernel
theorem d1_43 : decode method_2_code 43 = .ok (.areturn, 1) := by decide +kernel
def Q1_4 (Z : State) (w0 : Addr) (h0 : Heap) (n0 : Nat) (v : Option Value) (h : Heap) (L : List Loc) : Prop := v = some (.ref w0) ∧ Fr n0 L ∧ h = h0
set_option maxRecDepth 65536 in
set_option maxHeartbeats 40000000 in
theorem rm1_4 (l : Launch) (Z : State) (a0 : Array Value) (hw : ∀ d ∈ tables_1, d.before a0 Z = true) (ws : List Jvm.Cond) (w0 : Addr) (h0 : Heap) (n0 : Nat) (Z0 : n0 ≤ h0.size) (S0 : Sta Z h0 "com/example/weighted_scheduler/weightedscheduler/JobState" "RETRY_SCHEDULED" "Lcom/example/weighted_scheduler/weightedscheduler/JobState;" (.ref w0)) :
    MetFree l (⟨"com/example/weighted_scheduler/weightedscheduler/JobStateIsWaitingPinLaw", "pick", "(I)Lcom/example/weighted_scheduler/weightedscheduler/JobState;"⟩ : MethodName) (head1 (Jvm.Cond.code (⟨"com/example/weighted_scheduler/weightedscheduler/JobStateIsWaitingPinLaw", "pick", "(I)Lcom/example/weighted_scheduler/weightedscheduler/JobState;"⟩ : MethodName) method_2_code 1 (some (.object "com/example/weighted_scheduler/weightedscheduler/JobState")) :: ws) ({ frames := 0, cells := 0, slots := 0, locals := 0 } : Room)) (fun a U => a = #[(.int (4 : Int32))] ∧ Z.Warmed39 U.vm ∧ U.heap = h0) (fun _ _ _ _ _ => True) (fun _ U o U' => ∃ v L, o = .returned v ∧ Q1_4 Z w0 h0 n0 v U'.heap L ∧ FrameEnd U o U' L ({ frames := 0, cells := 0, slots := 0, locals := 0 } : Room).cells ({ frames := 0, cells := 0, slots := 0, locals := 0 } : Room).slots) := by
  refine MetFree.of_bodySF (plainFor_of_name pn_1) hisR ?_
  intro p e s m args below meth c s₁ Bd hml0 hP hK
  obtain ⟨rfl, hZ, hh⟩ := hP
  have hx := Bd.exec
  have hby := Bd.bytes
  have hml : c.maxLocals = 1 := hml0
  have hown : s.vm.findClass "com/example/weighted_scheduler/weightedscheduler/JobStateIsWaitingPinLaw" = some m.cls := findClass_of_methodNamed Bd.named
  have hnm := (name_of_methodNamed Bd.named Bd.method).1
  have X0 : Stand p l e ({ frames := 0, cells := 0, slots := 0, locals := 0 } : Room) s m #[(.int (4 : Int32))] below meth c s₁ [] 0 0 := Stand.of_body Bd
  have e0 : s₁.heap = h0 := by rw [← hh, Bd.state]; rfl
  have N0 := Fr.nil n0
  refine own_go (B := s₁.setTop (mkF m 0 (LS_I (4 : Int32)) [])) (fun t k => castTop (ef_1_4 m ) k) ?_
  refine own_go (B := s₁.setTop (mkF m 40 (LS_I (4 : Int32)) [])) (fun t k => ?_) ?_
  · show Steps p.tables e below (s₁.setTop (mkF m 0 (LS_I (4 : Int32)) [])) _
    refine XS.iloadN X0.here hx rfl (hb hby d1_0) rfl ?_
    show Steps p.tables e below (s₁.setTop (mkF m 1 (LS_I (4 : Int32)) [(.int (4 : Int32))])) _
    refine XS.ifYes X0.here hx rfl (pc0 := 1) (pc' := 8) rfl (hb hby d1_1) rfl ((if0 _ _).trans (feq (by decide : ¬ ((4 : Int32) = (0 : Int32)))).2) (by decide) (by decide) ?_
    show Steps p.tables e below (s₁.setTop (mkF m 8 (LS_I (4 : Int32)) [])) _
    refine XS.iloadN X0.here hx rfl (hb hby d1_8) rfl ?_
    show Steps p.tables e below (s₁.setTop (mkF m 9 (LS_I (4 : Int32)) [(.int (4 : Int32))])) _
    refine XS.iconst X0.here hx rfl (hb hby d1_9) ?_
    show Steps p.tables e below (s₁.setTop (mkF m 10 (LS_I (4 : Int32)) [(.int (1 : Int32)), (.int (4 : Int32))])) _
    refine XS.icmpYes X0.here hx rfl (pc0 := 10) (pc' := 17) rfl (hb hby d1_10) rfl (feq (by decide : ¬ ((4 : Int32) = (1 : Int32)))).2 (by decide) (by decide) ?_
    show Steps p.tables e below (s₁.setTop (mkF m 17 (LS_I (4 : Int32)) [])) _
    refine XS.iloadN X0.here hx rfl (hb hby d1_17) rfl ?_
    show Steps p.tables e below (s₁.setTop (mkF m 18 (LS_I (4 : Int32)) [(.int (4 : Int32))])) _
    refine XS.iconst X0.here hx rfl (hb hby d1_18) ?_
    show Steps p.tables e below (s₁.setTop (mkF m 19 (LS_I (4 : Int32)) [(.int (2 : Int32)), (.int (4 : Int32))])) _
    refine XS.icmpYes X0.here hx rfl (pc0 := 19) (pc' := 26) rfl (hb hby d1_19) rfl (feq (by decide : ¬ ((4 : Int32) = (2 : Int32)))).2 (by decide) (by decide) ?_
    show Steps p.tables e below (s₁.setTop (mkF m 26 (LS_I (4 : Int32)) [])) _
    refine XS.iloadN X0.here hx rfl (hb hby d1_26) rfl ?_
    show Steps p.tables e below (s₁.setTop (mkF m 27 (LS_I (4 : Int32)) [(.int (4 : Int32))])) _
    refine XS.iconst X0.here hx rfl (hb hby d1_27) ?_
    show Steps p.tables e below (s₁.setTop (mkF m 28 (LS_I (4 : Int32)) [(.int (3 : Int32)), (.int (4 : Int32))])) _
    refine XS.icmpYes X0.here hx rfl (pc0 := 28) (pc' := 35) rfl (hb hby d1_28) rfl (feq (by decide : ¬ ((4 : Int32) = (3 : Int32)))).2 (by decide) (by decide) ?_
    show Steps p.tables e below (s₁.setTop (mkF m 35 (LS_I (4 : Int32)) [])) _
    refine XS.iloadN X0.here hx rfl (hb hby d1_35) rfl ?_
    show Steps p.tables e below (s₁.setTop (mkF m 36 (LS_I (4 : Int32)) [(.int (4 : Int32))])) _
    refine XS.iconst X0.here hx rfl (hb hby d1_36) ?_
    show Steps p.tables e below (s₁.setTop (mkF m 37 (LS_I (4 : Int32)) [(.int (4 : Int32)), (.int (4 : Int32))])) _
    refine XS.icmpNo X0.here hx rfl (hb hby d1_37) rfl (teq (by decide : (4 : Int32) = (4 : Int32))).2 ?_
    exact k
  obtain ⟨T1, X1, e1, st1⟩ := getS2 X0 hx hZ hown (host := "") (Or.inl (hw _ (List.mem_of_getElem? (i := 33) rfl))) Via.refl e0 S0 (g := (mkF m 40 (LS_I (4 : Int32)) [])) rfl (hb hby d1_40)
  refine own_go (B := T1.setTop (mkF m 43 (LS_I (4 : Int32)) [(.ref w0)])) (fun t k => st1 _ k) ?_
  obtain ⟨fs, hr, hrun, hended, hW, hsame⟩ := X1.leave (v := some (.ref w0)) (fun h => by rw [Bd.returns] at h; cases h)
  refine ⟨_, _, ?_, hrun, hended, _, _, rfl, ?_, ⟨_, rfl⟩, hW, hsame.mono (by decide) (by decide)⟩
  · show Steps p.tables e below (T1.setTop (mkF m 43 (LS_I (4 : Int32)) [(.ref w0)])) _
    exact retOut X1 hx Bd.returns rfl (Or.inr (Or.inr (Or.inr (Or.inr ⟨rfl, rfl, rfl⟩)))) (hb hby d1_43) hr
  · show Q1_4 Z w0 h0 n0 _ T1.heap _
    rw [e1]
    exact ⟨rfl, N0, rfl⟩
theorem ef_1_5 (m : MethodId)  : entryFrame m #[(.int (5 : Int32))] 1 = mkF m 0 #[.val (.int (5 : Int32))] [] := by first | (simp [entryFrame, mkF, argsToLocals, Value.category]; done) | rfl
theorem d1_44 : decode method_2_code 44 = .ok (.iload_n 0, 1) := by decide +kernel
theorem d1_45 : decode method_2_code 45 = .ok (.iconst 5, 1) := by decide +kernel
theorem d1_46 : decode method_2_code 46 = .ok (.if_icmp .ne 7, 3) := by decide +kernel
theorem d1_49 : decode method_2_code 49 = .ok (.getstatic 25, 3) := by decide +kernel
theorem d1_52 : decode method_2_code 52 = .ok (.areturn, 1) := by decide +kernel
def Q1_5 (Z : State) (w0 : Addr) (h0 : Heap) (n0 : Nat) (v : Option Value) (h : Heap) (L : List Loc) : Prop := v = some (.ref w0) ∧ Fr n0 L ∧ h = h0
set_option maxRecDepth 65536 in
set_option maxHeartbeats 40000000 in
theorem rm1_5 (l : Launch) (Z : State) (a0 : Array Value) (hw : ∀ d ∈ tables_1, d.before a0 Z = true) (ws : List Jvm.Cond) (w0 : Addr) (h0 : Heap) (n0 : Nat) (Z0 : n0 ≤ h0.size) (S0 : Sta Z h0 "com/example/weighted_scheduler/weightedscheduler/JobState" "DEAD" "Lcom/example/weighted_scheduler/weightedscheduler/JobState;" (.ref w0)) :
    MetFree l (⟨"com/example/weighted_scheduler/weightedscheduler/JobStateIsWaitingPinLaw", "pick", "(I)Lcom/example/weighted_scheduler/weightedscheduler/JobState;"⟩ : MethodName) (head1 (Jvm.Cond.code (⟨"com/example/weighted_scheduler/weightedscheduler/JobStateIsWaitingPinLaw", "pick", "(I)Lcom/example/weighted_scheduler/weightedscheduler/JobState;"⟩ : MethodName) method_2_code 1 (some (.object "com/example/weighted_scheduler/weightedscheduler/JobState")) :: ws) ({ frames := 0, cells := 0, slots := 0, locals := 0 } : Room)) (fun a U => a = #[(.int (5 : Int32))] ∧ Z.Warmed39 U.vm ∧ U.heap = h0) (fun _ _ _ _ _ => True) (fun _ U o U' => ∃ v L, o = .returned v ∧ Q1_5 Z w0 h0 n0 v U'.heap L ∧ FrameEnd U o U' L ({ frames := 0, cells := 0, slots := 0, locals := 0 } : Room).cells ({ frames := 0, cells := 0, slots := 0, locals := 0 } : Room).slots) := by
  refine MetFree.of_bodySF (plainFor_of_name pn_1) hisR ?_
  intro p e s m args below meth c s₁ Bd hml0 hP hK
  obtain ⟨rfl, hZ, hh⟩ := hP
  have hx := Bd.exec
  have hby := Bd.bytes
  have hml : c.maxLocals = 1 := hml0
  have hown : s.vm.findClass "com/example/weighted_scheduler/weightedscheduler/JobStateIsWaitingPinLaw" = some m.cls := findClass_of_methodNamed Bd.named
  have hnm := (name_of_methodNamed Bd.named Bd.method).1
  have X0 : Stand p l e ({ frames := 0, cells := 0, slots := 0, locals := 0 } : Room) s m #[(.int (5 : Int32))] below meth c s₁ [] 0 0 := Stand.of_body Bd
  have e0 : s₁.heap = h0 := by rw [← hh, Bd.state]; rfl
  have N0 := Fr.nil n0
  refine own_go (B := s₁.setTop (mkF m 0 (LS_I (5 : Int32)) [])) (fun t k => castTop (ef_1_5 m ) k) ?_
  refine own_go (B := s₁.setTop (mkF m 49 (LS_I (5 : Int32)) [])) (fun t k => ?_) ?_
  · show Steps p.tables e below (s₁.setTop (mkF m 0 (LS_I (5 : Int32)) [])) _
    refine XS.iloadN X0.here hx rfl (hb hby d1_0) rfl ?_
    show Steps p.tables e below (s₁.setTop (mkF m 1 (LS_I (5 : Int32)) [(.int (5 : Int32))])) _
    refine XS.ifYes X0.here hx rfl (pc0 := 1) (pc' := 8) rfl (hb hby d1_1) rfl ((if0 _ _).trans (feq (by decide : ¬ ((5 : Int32) = (0 : Int32)))).2) (by decide) (by decide) ?_
    show Steps p.tables e below (s₁.setTop (mkF m 8 (LS_I (5 : Int32)) [])) _
    refine XS.iloadN X0.here hx rfl (hb hby d1_8) rfl ?_
    show Steps p.tables e below (s₁.setTop (mkF m 9 (LS_I (5 : Int32)) [(.int (5 : Int32))])) _
    refine XS.iconst X0.here hx rfl (hb hby d1_9) ?_
    show Steps p.tables e below (s₁.setTop (mkF m 10 (LS_I (5 : Int32)) [(.int (1 : Int32)), (.int (5 : Int32))])) _
    refine XS.icmpYes X0.here hx rfl (pc0 := 10) (pc' := 17) rfl (hb hby d1_10) rfl (feq (by decide : ¬ ((5 : Int32) = (1 : Int32)))).2 (by decide) (by decide) ?_
    show Steps p.tables e below (s₁.setTop (mkF m 17 (LS_I (5 : Int32)) [])) _
    refine XS.iloadN X0.here hx rfl (hb hby d1_17) rfl ?_
    show Steps p.tables e below (s₁.setTop (mkF m 18 (LS_I (5 : Int32)) [(.int (5 : Int32))])) _
    refine XS.iconst X0.here hx rfl (hb hby d1_18) ?_
    show Steps p.tables e below (s₁.setTop (mkF m 19 (LS_I (5 : Int32)) [(.int (2 : Int32)), (.int (5 : Int32))])) _
    refine XS.icmpYes X0.here hx rfl (pc0 := 19) (pc' := 26) rfl (hb hby d1_19) rfl (feq (by decide : ¬ ((5 : Int32) = (2 : Int32)))).2 (by decide) (by decide) ?_
    show Steps p.tables e below (s₁.setTop (mkF m 26 (LS_I (5 : Int32)) [])) _
    refine XS.iloadN X0.here hx rfl (hb hby d1_26) rfl ?_
    show Steps p.tables e below (s₁.setTop (mkF m 27 (LS_I (5 : Int32)) [(.int (5 : Int32))])) _
    refine XS.iconst X0.here hx rfl (hb hby d1_27) ?_
    show Steps p.tables e below (s₁.setTop (mkF m 28 (LS_I (5 : Int32)) [(.int (3 : Int32)), (.int (5 : Int32))])) _
    refine XS.icmpYes X0.here hx rfl (pc0 := 28) (pc' := 35) rfl (hb hby d1_28) rfl (feq (by decide : ¬ ((5 : Int32) = (3 : Int32)))).2 (by decide) (by decide) ?_
    show Steps p.tables e below (s₁.setTop (mkF m 35 (LS_I (5 : Int32)) [])) _
    refine XS.iloadN X0.here hx rfl (hb hby d1_35) rfl ?_
    show Steps p.tables e below (s₁.setTop (mkF m 36 (LS_I (5 : Int32)) [(.int (5 : Int32))])) _
    refine XS.iconst X0.here hx rfl (hb hby d1_36) ?_
    show Steps p.tables e below (s₁.setTop (mkF m 37 (LS_I (5 : Int32)) [(.int (4 : Int32)), (.int (5 : Int32))])) _
    refine XS.icmpYes X0.here hx rfl (pc0 := 37) (pc' := 44) rfl (hb hby d1_37) rfl (feq (by decide : ¬ ((5 : Int32) = (4 : Int32)))).2 (by decide) (by decide) ?_
    show Steps p.tables e below (s₁.setTop (mkF m 44 (LS_I (5 : Int32)) [])) _
    refine XS.iloadN X0.here hx rfl (hb hby d1_44) rfl ?_
    show Steps p.tables e below (s₁.setTop (mkF m 45 (LS_I (5 : Int32)) [(.int (5 : Int32))])) _
    refine XS.iconst X0.here hx rfl (hb hby d1_45) ?_
    show Steps p.tables e below (s₁.setTop (mkF m 46 (LS_I (5 : Int32)) [(.int (5 : Int32)), (.int (5 : Int32))])) _
    refine XS.icmpNo X0.here hx rfl (hb hby d1_46) rfl (teq (by decide : (5 : Int32) = (5 : Int32))).2 ?_
    exact k
  obtain ⟨T1, X1, e1, st1⟩ := getS2 X0 hx hZ hown (host := "") (Or.inl (hw _ (List.mem_of_getElem? (i := 34) rfl))) Via.refl e0 S0 (g := (mkF m 49 (LS_I (5 : Int32)) [])) rfl (hb hby d1_49)
  refine own_go (B := T1.setTop (mkF m 52 (LS_I (5 : Int32)) [(.ref w0)])) (fun t k => st1 _ k) ?_
  obtain ⟨fs, hr, hrun, hended, hW, hsame⟩ := X1.leave (v := some (.ref w0)) (fun h => by rw [Bd.returns] at h; cases h)
  refine ⟨_, _, ?_, hrun, hended, _, _, rfl, ?_, ⟨_, rfl⟩, hW, hsame.mono (by decide) (by decide)⟩
  · show Steps p.tables e below (T1.setTop (mkF m 52 (LS_I (5 : Int32)) [(.ref w0)])) _
    exact retOut X1 hx Bd.returns rfl (Or.inr (Or.inr (Or.inr (Or.inr ⟨rfl, rfl, rfl⟩)))) (hb hby d1_52) hr
  · show Q1_5 Z w0 h0 n0 _ T1.heap _
    rw [e1]
    exact ⟨rfl, N0, rfl⟩
theorem ef_1_6 (m : MethodId)  : entryFrame m #[(.int (6 : Int32))] 1 = mkF m 0 #[.val (.int (6 : Int32))] [] := by first | (simp [entryFrame, mkF, argsToLocals, Value.category]; done) | rfl
theorem d1_53 : decode method_2_code 53 = .ok (.iload_n 0, 1) := by decide +kernel
theorem d1_54 : decode method_2_code 54 = .ok (.bipush 6, 2) := by decide +kernel
theorem d1_56 : decode method_2_code 56 = .ok (.if_icmp .ne 7, 3) := by decide +kernel
theorem d1_59 : decode method_2_code 59 = .ok (.getstatic 28, 3) := by decide +kernel
theorem d1_62 : decode method_2_code 62 = .ok (.areturn, 1) := by decide +kernel
def Q1_6 (Z : State) (w0 : Addr) (h0 : Heap) (n0 : Nat) (v : Option Value) (h : Heap) (L : List Loc) : Prop := v = some (.ref w0) ∧ Fr n0 L ∧ h = h0
set_option maxRecDepth 65536 in
set_option maxHeartbeats 40000000 in
theorem rm1_6 (l : Launch) (Z : State) (a0 : Array Value) (hw : ∀ d ∈ tables_1, d.before a0 Z = true) (ws : List Jvm.Cond) (w0 : Addr) (h0 : Heap) (n0 : Nat) (Z0 : n0 ≤ h0.size) (S0 : Sta Z h0 "com/example/weighted_scheduler/weightedscheduler/JobState" "EXPIRED" "Lcom/example/weighted_scheduler/weightedscheduler/JobState;" (.ref w0)) :
    MetFree l (⟨"com/example/weighted_scheduler/weightedscheduler/JobStateIsWaitingPinLaw", "pick", "(I)Lcom/example/weighted_scheduler/weightedscheduler/JobState;"⟩ : MethodName) (head1 (Jvm.Cond.code (⟨"com/example/weighted_scheduler/weightedscheduler/JobStateIsWaitingPinLaw", "pick", "(I)Lcom/example/weighted_scheduler/weightedscheduler/JobState;"⟩ : MethodName) method_2_code 1 (some (.object "com/example/weighted_scheduler/weightedscheduler/JobState")) :: ws) ({ frames := 0, cells := 0, slots := 0, locals := 0 } : Room)) (fun a U => a = #[(.int (6 : Int32))] ∧ Z.Warmed39 U.vm ∧ U.heap = h0) (fun _ _ _ _ _ => True) (fun _ U o U' => ∃ v L, o = .returned v ∧ Q1_6 Z w0 h0 n0 v U'.heap L ∧ FrameEnd U o U' L ({ frames := 0, cells := 0, slots := 0, locals := 0 } : Room).cells ({ frames := 0, cells := 0, slots := 0, locals := 0 } : Room).slots) := by
  refine MetFree.of_bodySF (plainFor_of_name pn_1) hisR ?_
  intro p e s m args below meth c s₁ Bd hml0 hP hK
  obtain ⟨rfl, hZ, hh⟩ := hP
  have hx := Bd.exec
  have hby := Bd.bytes
  have hml : c.maxLocals = 1 := hml0
  have hown : s.vm.findClass "com/example/weighted_scheduler/weightedscheduler/JobStateIsWaitingPinLaw" = some m.cls := findClass_of_methodNamed Bd.named
  have hnm := (name_of_methodNamed Bd.named Bd.method).1
  have X0 : Stand p l e ({ frames := 0, cells := 0, slots := 0, locals := 0 } : Room) s m #[(.int (6 : Int32))] below meth c s₁ [] 0 0 := Stand.of_body Bd
  have e0 : s₁.heap = h0 := by rw [← hh, Bd.state]; rfl
  have N0 := Fr.nil n0
  refine own_go (B := s₁.setTop (mkF m 0 (LS_I (6 : Int32)) [])) (fun t k => castTop (ef_1_6 m ) k) ?_
  refine own_go (B := s₁.setTop (mkF m 59 (LS_I (6 : Int32)) [])) (fun t k => ?_) ?_
  · show Steps p.tables e below (s₁.setTop (mkF m 0 (LS_I (6 : Int32)) [])) _
    refine XS.iloadN X0.here hx rfl (hb hby d1_0) rfl ?_
    show Steps p.tables e below (s₁.setTop (mkF m 1 (LS_I (6 : Int32)) [(.int (6 : Int32))])) _
    refine XS.ifYes X0.here hx rfl (pc0 := 1) (pc' := 8) rfl (hb hby d1_1) rfl ((if0 _ _).trans (feq (by decide : ¬ ((6 : Int32) = (0 : Int32)))).2) (by decide) (by decide) ?_
    show Steps p.tables e below (s₁.setTop (mkF m 8 (LS_I (6 : Int32)) [])) _
    refine XS.iloadN X0.here hx rfl (hb hby d1_8) rfl ?_
    show Steps p.tables e below (s₁.setTop (mkF m 9 (LS_I (6 : Int32)) [(.int (6 : Int32))])) _
    refine XS.iconst X0.here hx rfl (hb hby d1_9) ?_
    show Steps p.tables e below (s₁.setTop (mkF m 10 (LS_I (6 : Int32)) [(.int (1 : Int32)), (.int (6 : Int32))])) _
    refine XS.icmpYes X0.here hx rfl (pc0 := 10) (pc' := 17) rfl (hb hby d1_10) rfl (feq (by decide : ¬ ((6 : Int32) = (1 : Int32)))).2 (by decide) (by decide) ?_
    show Steps p.tables e below (s₁.setTop (mkF m 17 (LS_I (6 : Int32)) [])) _
    refine XS.iloadN X0.here hx rfl (hb hby d1_17) rfl ?_
    show Steps p.tables e below (s₁.setTop (mkF m 18 (LS_I (6 : Int32)) [(.int (6 : Int32))])) _
    refine XS.iconst X0.here hx rfl (hb hby d1_18) ?_
    show Steps p.tables e below (s₁.setTop (mkF m 19 (LS_I (6 : Int32)) [(.int (2 : Int32)), (.int (6 : Int32))])) _
    refine XS.icmpYes X0.here hx rfl (pc0 := 19) (pc' := 26) rfl (hb hby d1_19) rfl (feq (by decide : ¬ ((6 : Int32) = (2 : Int32)))).2 (by decide) (by decide) ?_
    show Steps p.tables e below (s₁.setTop (mkF m 26 (LS_I (6 : Int32)) [])) _
    refine XS.iloadN X0.here hx rfl (hb hby d1_26) rfl ?_
    show Steps p.tables e below (s₁.setTop (mkF m 27 (LS_I (6 : Int32)) [(.int (6 : Int32))])) _
    refine XS.iconst X0.here hx rfl (hb hby d1_27) ?_
    show Steps p.tables e below (s₁.setTop (mkF m 28 (LS_I (6 : Int32)) [(.int (3 : Int32)), (.int (6 : Int32))])) _
    refine XS.icmpYes X0.here hx rfl (pc0 := 28) (pc' := 35) rfl (hb hby d1_28) rfl (feq (by decide : ¬ ((6 : Int32) = (3 : Int32)))).2 (by decide) (by decide) ?_
    show Steps p.tables e below (s₁.setTop (mkF m 35 (LS_I (6 : Int32)) [])) _
    refine XS.iloadN X0.here hx rfl (hb hby d1_35) rfl ?_
    show Steps p.tables e below (s₁.setTop (mkF m 36 (LS_I (6 : Int32)) [(.int (6 : Int32))])) _
    refine XS.iconst X0.here hx rfl (hb hby d1_36) ?_
    show Steps p.tables e below (s₁.setTop (mkF m 37 (LS_I (6 : Int32)) [(.int (4 : Int32)), (.int (6 : Int32))])) _
    refine XS.icmpYes X0.here hx rfl (pc0 := 37) (pc' := 44) rfl (hb hby d1_37) rfl (feq (by decide : ¬ ((6 : Int32) = (4 : Int32)))).2 (by decide) (by decide) ?_
    show Steps p.tables e below (s₁.setTop (mkF m 44 (LS_I (6 : Int32)) [])) _
    refine XS.iloadN X0.here hx rfl (hb hby d1_44) rfl ?_
    show Steps p.tables e below (s₁.setTop (mkF m 45 (LS_I (6 : Int32)) [(.int (6 : Int32))])) _
    refine XS.iconst X0.here hx rfl (hb hby d1_45) ?_
    show Steps p.tables e below (s₁.setTop (mkF m 46 (LS_I (6 : Int32)) [(.int (5 : Int32)), (.int (6 : Int32))])) _
    refine XS.icmpYes X0.here hx rfl (pc0 := 46) (pc' := 53) rfl (hb hby d1_46) rfl (feq (by decide : ¬ ((6 : Int32) = (5 : Int32)))).2 (by decide) (by decide) ?_
    show Steps p.tables e below (s₁.setTop (mkF m 53 (LS_I (6 : Int32)) [])) _
    refine XS.iloadN X0.here hx rfl (hb hby d1_53) rfl ?_
    show Steps p.tables e below (s₁.setTop (mkF m 54 (LS_I (6 : Int32)) [(.int (6 : Int32))])) _
    refine XS.bipush X0.here hx rfl (hb hby d1_54) ?_
    show Steps p.tables e below (s₁.setTop (mkF m 56 (LS_I (6 : Int32)) [(.int (6 : Int32)), (.int (6 : Int32))])) _
    refine XS.icmpNo X0.here hx rfl (hb hby d1_56) rfl (teq (by decide : (6 : Int32) = (6 : Int32))).2 ?_
    exact k
  obtain ⟨T1, X1, e1, st1⟩ := getS2 X0 hx hZ hown (host := "") (Or.inl (hw _ (List.mem_of_getElem? (i := 26) rfl))) Via.refl e0 S0 (g := (mkF m 59 (LS_I (6 : Int32)) [])) rfl (hb hby d1_59)
  refine own_go (B := T1.setTop (mkF m 62 (LS_I (6 : Int32)) [(.ref w0)])) (fun t k => st1 _ k) ?_
  obtain ⟨fs, hr, hrun, hended, hW, hsame⟩ := X1.leave (v := some (.ref w0)) (fun h => by rw [Bd.returns] at h; cases h)
  refine ⟨_, _, ?_, hrun, hended, _, _, rfl, ?_, ⟨_, rfl⟩, hW, hsame.mono (by decide) (by decide)⟩
  · show Steps p.tables e below (T1.setTop (mkF m 62 (LS_I (6 : Int32)) [(.ref w0)])) _
    exact retOut X1 hx Bd.returns rfl (Or.inr (Or.inr (Or.inr (Or.inr ⟨rfl, rfl, rfl⟩)))) (hb hby d1_62) hr
  · show Q1_6 Z w0 h0 n0 _ T1.heap _
    rw [e1]
    exact ⟨rfl, N0, rfl⟩
theorem ef_1_7 (m : MethodId)  : entryFrame m #[(.int (7 : Int32))] 1 = mkF m 0 #[.val (.int (7 : Int32))] [] := by first | (simp [entryFrame, mkF, argsToLocals, Value.category]; done) | rfl
theorem d1_63 : decode method_2_code 63 = .ok (.getstatic 31, 3) := by decide +kernel
theorem d1_66 : decode method_2_code 66 = .ok (.areturn, 1) := by decide +kernel
def Q1_7 (Z : State) (w0 : Addr) (h0 : Heap) (n0 : Nat) (v : Option Value) (h : Heap) (L : List Loc) : Prop := v = some (.ref w0) ∧ Fr n0 L ∧ h = h0
set_option maxRecDepth 65536 in
set_option maxHeartbeats 40000000 in
theorem rm1_7 (l : Launch) (Z : State) (a0 : Array Value) (hw : ∀ d ∈ tables_1, d.before a0 Z = true) (ws : List Jvm.Cond) (w0 : Addr) (h0 : Heap) (n0 : Nat) (Z0 : n0 ≤ h0.size) (S0 : Sta Z h0 "com/example/weighted_scheduler/weightedscheduler/JobState" "CANCELLED" "Lcom/example/weighted_scheduler/weightedscheduler/JobState;" (.ref w0)) :
    MetFree l (⟨"com/example/weighted_scheduler/weightedscheduler/JobStateIsWaitingPinLaw", "pick", "(I)Lcom/example/weighted_scheduler/weightedscheduler/JobState;"⟩ : MethodName) (head1 (Jvm.Cond.code (⟨"com/example/weighted_scheduler/weightedscheduler/JobStateIsWaitingPinLaw", "pick", "(I)Lcom/example/weighted_scheduler/weightedscheduler/JobState;"⟩ : MethodName) method_2_code 1 (some (.object "com/example/weighted_scheduler/weightedscheduler/JobState")) :: ws) ({ frames := 0, cells := 0, slots := 0, locals := 0 } : Room)) (fun a U => a = #[(.int (7 : Int32))] ∧ Z.Warmed39 U.vm ∧ U.heap = h0) (fun _ _ _ _ _ => True) (fun _ U o U' => ∃ v L, o = .returned v ∧ Q1_7 Z w0 h0 n0 v U'.heap L ∧ FrameEnd U o U' L ({ frames := 0, cells := 0, slots := 0, locals := 0 } : Room).cells ({ frames := 0, cells := 0, slots := 0, locals := 0 } : Room).slots) := by
  refine MetFree.of_bodySF (plainFor_of_name pn_1) hisR ?_
  intro p e s m args below meth c s₁ Bd hml0 hP hK
  obtain ⟨rfl, hZ, hh⟩ := hP
  have hx := Bd.exec
  have hby := Bd.bytes
  have hml : c.maxLocals = 1 := hml0
  have hown : s.vm.findClass "com/example/weighted_scheduler/weightedscheduler/JobStateIsWaitingPinLaw" = some m.cls := findClass_of_methodNamed Bd.named
  have hnm := (name_of_methodNamed Bd.named Bd.method).1
  have X0 : Stand p l e ({ frames := 0, cells := 0, slots := 0, locals := 0 } : Room) s m #[(.int (7 : Int32))] below meth c s₁ [] 0 0 := Stand.of_body Bd
  have e0 : s₁.heap = h0 := by rw [← hh, Bd.state]; rfl
  have N0 := Fr.nil n0
  refine own_go (B := s₁.setTop (mkF m 0 (LS_I (7 : Int32)) [])) (fun t k => castTop (ef_1_7 m ) k) ?_
  refine own_go (B := s₁.setTop (mkF m 63 (LS_I (7 : Int32)) [])) (fun t k => ?_) ?_
  · show Steps p.tables e below (s₁.setTop (mkF m 0 (LS_I (7 : Int32)) [])) _
    refine XS.iloadN X0.here hx rfl (hb hby d1_0) rfl ?_
    show Steps p.tables e below (s₁.setTop (mkF m 1 (LS_I (7 : Int32)) [(.int (7 : Int32))])) _
    refine XS.ifYes X0.here hx rfl (pc0 := 1) (pc' := 8) rfl (hb hby d1_1) rfl ((if0 _ _).trans (feq (by decide : ¬ ((7 : Int32) = (0 : Int32)))).2) (by decide) (by decide) ?_
    show Steps p.tables e below (s₁.setTop (mkF m 8 (LS_I (7 : Int32)) [])) _
    refine XS.iloadN X0.here hx rfl (hb hby d1_8) rfl ?_
    show Steps p.tables e below (s₁.setTop (mkF m 9 (LS_I (7 : Int32)) [(.int (7 : Int32))])) _
    refine XS.iconst X0.here hx rfl (hb hby d1_9) ?_
    show Steps p.tables e below (s₁.setTop (mkF m 10 (LS_I (7 : Int32)) [(.int (1 : Int32)), (.int (7 : Int32))])) _
    refine XS.icmpYes X0.here hx rfl (pc0 := 10) (pc' := 17) rfl (hb hby d1_10) rfl (feq (by decide : ¬ ((7 : Int32) = (1 : Int32)))).2 (by decide) (by decide) ?_
    show Steps p.tables e below (s₁.setTop (mkF m 17 (LS_I (7 : Int32)) [])) _
    refine XS.iloadN X0.here hx rfl (hb hby d1_17) rfl ?_
    show Steps p.tables e below (s₁.setTop (mkF m 18 (LS_I (7 : Int32)) [(.int (7 : Int32))])) _
    refine XS.iconst X0.here hx rfl (hb hby d1_18) ?_
    show Steps p.tables e below (s₁.setTop (mkF m 19 (LS_I (7 : Int32)) [(.int (2 : Int32)), (.int (7 : Int32))])) _
    refine XS.icmpYes X0.here hx rfl (pc0 := 19) (pc' := 26) rfl (hb hby d1_19) rfl (feq (by decide : ¬ ((7 : Int32) = (2 : Int32)))).2 (by decide) (by decide) ?_
    show Steps p.tables e below (s₁.setTop (mkF m 26 (LS_I (7 : Int32)) [])) _
    refine XS.iloadN X0.here hx rfl (hb hby d1_26) rfl ?_
    show Steps p.tables e below (s₁.setTop (mkF m 27 (LS_I (7 : Int32)) [(.int (7 : Int32))])) _
    refine XS.iconst X0.here hx rfl (hb hby d1_27) ?_
    show Steps p.tables e below (s₁.setTop (mkF m 28 (LS_I (7 : Int32)) [(.int (3 : Int32)), (.int (7 : Int32))])) _
    refine XS.icmpYes X0.here hx rfl (pc0 := 28) (pc' := 35) rfl (hb hby d1_28) rfl (feq (by decide : ¬ ((7 : Int32) = (3 : Int32)))).2 (by decide) (by decide) ?_
    show Steps p.tables e below (s₁.setTop (mkF m 35 (LS_I (7 : Int32)) [])) _
    refine XS.iloadN X0.here hx rfl (hb hby d1_35) rfl ?_
    show Steps p.tables e below (s₁.setTop (mkF m 36 (LS_I (7 : Int32)) [(.int (7 : Int32))])) _
    refine XS.iconst X0.here hx rfl (hb hby d1_36) ?_
    show Steps p.tables e below (s₁.setTop (mkF m 37 (LS_I (7 : Int32)) [(.int (4 : Int32)), (.int (7 : Int32))])) _
    refine XS.icmpYes X0.here hx rfl (pc0 := 37) (pc' := 44) rfl (hb hby d1_37) rfl (feq (by decide : ¬ ((7 : Int32) = (4 : Int32)))).2 (by decide) (by decide) ?_
    show Steps p.tables e below (s₁.setTop (mkF m 44 (LS_I (7 : Int32)) [])) _
    refine XS.iloadN X0.here hx rfl (hb hby d1_44) rfl ?_
    show Steps p.tables e below (s₁.setTop (mkF m 45 (LS_I (7 : Int32)) [(.int (7 : Int32))])) _
    refine XS.iconst X0.here hx rfl (hb hby d1_45) ?_
    show Steps p.tables e below (s₁.setTop (mkF m 46 (LS_I (7 : Int32)) [(.int (5 : Int32)), (.int (7 : Int32))])) _
    refine XS.icmpYes X0.here hx rfl (pc0 := 46) (pc' := 53) rfl (hb hby d1_46) rfl (feq (by decide : ¬ ((7 : Int32) = (5 : Int32)))).2 (by decide) (by decide) ?_
    show Steps p.tables e below (s₁.setTop (mkF m 53 (LS_I (7 : Int32)) [])) _
    refine XS.iloadN X0.here hx rfl (hb hby d1_53) rfl ?_
    show Steps p.tables e below (s₁.setTop (mkF m 54 (LS_I (7 : Int32)) [(.int (7 : Int32))])) _
    refine XS.bipush X0.here hx rfl (hb hby d1_54) ?_
    show Steps p.tables e below (s₁.setTop (mkF m 56 (LS_I (7 : Int32)) [(.int (6 : Int32)), (.int (7 : Int32))])) _
    refine XS.icmpYes X0.here hx rfl (pc0 := 56) (pc' := 63) rfl (hb hby d1_56) rfl (feq (by decide : ¬ ((7 : Int32) = (6 : Int32)))).2 (by decide) (by decide) ?_
    exact k
  obtain ⟨T1, X1, e1, st1⟩ := getS2 X0 hx hZ hown (host := "") (Or.inl (hw _ (List.mem_of_getElem? (i := 28) rfl))) Via.refl e0 S0 (g := (mkF m 63 (LS_I (7 : Int32)) [])) rfl (hb hby d1_63)
  refine own_go (B := T1.setTop (mkF m 66 (LS_I (7 : Int32)) [(.ref w0)])) (fun t k => st1 _ k) ?_
  obtain ⟨fs, hr, hrun, hended, hW, hsame⟩ := X1.leave (v := some (.ref w0)) (fun h => by rw [Bd.returns] at h; cases h)
  refine ⟨_, _, ?_, hrun, hended, _, _, rfl, ?_, ⟨_, rfl⟩, hW, hsame.mono (by decide) (by decide)⟩
  · show Steps p.tables e below (T1.setTop (mkF m 66 (LS_I (7 : Int32)) [(.ref w0)])) _
    exact retOut X1 hx Bd.returns rfl (Or.inr (Or.inr (Or.inr (Or.inr ⟨rfl, rfl, rfl⟩)))) (hb hby d1_66) hr
  · show Q1_7 Z w0 h0 n0 _ T1.heap _
    rw [e1]
    exact ⟨rfl, N0, rfl⟩
theorem ef_2 (m : MethodId) (r0 : Addr) : entryFrame m #[(.ref r0)] 1 = mkF m 0 #[.val (.ref r0)] [] := by first | (simp [entryFrame, mkF, argsToLocals, Value.category]; done) | rfl
theorem pn_2 : plainName "com/example/weighted_scheduler/weightedscheduler/JobState" = true := by first | (simp [plainName, overriddenIn]; done) | decide +kernel
abbrev LS_R (a0 : Addr) : Array Slot := #[.val (.ref a0)]
theorem d2_0 : decode prog_30_method_6_code 0 = .ok (.aload_n 0, 1) := by decide +kernel
theorem d2_1 : decode prog_30_method_6_code 1 = .ok (.getstatic 3, 3) := by decide +kernel
theorem d2_4 : decode prog_30_method_6_code 4 = .ok (.if_acmp .eq 17, 3) := by decide +kernel
theorem d2_21 : decode prog_30_method_6_code 21 = .ok (.iconst 1, 1) := by decide +kernel
theorem d2_22 : decode prog_30_method_6_code 22 = .ok (.goto 4, 3) := by decide +kernel
theorem d2_26 : decode prog_30_method_6_code 26 = .ok (.ireturn, 1) := by decide +kernel
theorem d2_7 : decode prog_30_method_6_code 7 = .ok (.aload_n 0, 1) := by decide +kernel
theorem d2_8 : decode prog_30_method_6_code 8 = .ok (.getstatic 7, 3) := by decide +kernel
theorem d2_11 : decode prog_30_method_6_code 11 = .ok (.if_acmp .eq 10, 3) := by decide +kernel
theorem d2_14 : decode prog_30_method_6_code 14 = .ok (.aload_n 0, 1) := by decide +kernel
theorem d2_15 : decode prog_30_method_6_code 15 = .ok (.getstatic 16, 3) := by decide +kernel
theorem d2_18 : decode prog_30_method_6_code 18 = .ok (.if_acmp .ne 7, 3) := by decide +kernel
theorem d2_25 : decode prog_30_method_6_code 25 = .ok (.iconst 0, 1) := by decide +kernel
def Q2 (Z : State) (r0 : Addr) (w0 : Addr) (w1 : Addr) (w2 : Addr) (h0 : Heap) (n0 : Nat) (v : Option Value) (h : Heap) (L : List Loc) : Prop := v = some (.int (if r0 = w0 then (1 : Int32) else if r0 = w1 then (1 : Int32) else if r0 = w2 then (1 : Int32) else (0 : Int32))) ∧ Fr n0 L ∧ h = h0
set_option maxRecDepth 65536 in
set_option maxHeartbeats 40000000 in
theorem rm2 (l : Launch) (Z : State) (a0 : Array Value) (hw : ∀ d ∈ tables_1, d.before a0 Z = true) (ws : List Jvm.Cond) (r0 : Addr) (w0 : Addr) (w1 : Addr) (w2 : Addr) (h0 : Heap) (n0 : Nat) (Z0 : n0 ≤ h0.size) (S0 : Sta Z h0 "com/example/weighted_scheduler/weightedscheduler/JobState" "SCHEDULED" "Lcom/example/weighted_scheduler/weightedscheduler/JobState;" (.ref w0)) (S1 : Sta Z h0 "com/example/weighted_scheduler/weightedscheduler/JobState" "QUEUED" "Lcom/example/weighted_scheduler/weightedscheduler/JobState;" (.ref w1)) (S2 : Sta Z h0 "com/example/weighted_scheduler/weightedscheduler/JobState" "RETRY_SCHEDULED" "Lcom/example/weighted_scheduler/weightedscheduler/JobState;" (.ref w2)) :
    MetFree l (⟨"com/example/weighted_scheduler/weightedscheduler/JobState", "isWaiting", "()Z"⟩ : MethodName) (head1 (Jvm.Cond.code (⟨"com/example/weighted_scheduler/weightedscheduler/JobState", "isWaiting", "()Z"⟩ : MethodName) prog_30_method_6_code 1 (some .boolean) :: ws) ({ frames := 0, cells := 0, slots := 0, locals := 0 } : Room)) (fun a U => a = #[(.ref r0)] ∧ Z.Warmed39 U.vm ∧ U.heap = h0) (fun _ _ _ _ _ => True) (fun _ U o U' => ∃ v L, o = .returned v ∧ Q2 Z r0 w0 w1 w2 h0 n0 v U'.heap L ∧ FrameEnd U o U' L ({ frames := 0, cells := 0, slots := 0, locals := 0 } : Room).cells ({ frames := 0, cells := 0, slots := 0, locals := 0 } : Room).slots) := by
  refine MetFree.of_bodySF (plainFor_of_name pn_2) hisR ?_
  intro p e s m args below meth c s₁ Bd hml0 hP hK
  obtain ⟨rfl, hZ, hh⟩ := hP
  have hx := Bd.exec
  have hby := Bd.bytes
  have hml : c.maxLocals = 1 := hml0
  have hown : s.vm.findClass "com/example/weighted_scheduler/weightedscheduler/JobState" = some m.cls := findClass_of_methodNamed Bd.named
  have hnm := (name_of_methodNamed Bd.named Bd.method).1
  have X0 : Stand p l e ({ frames := 0, cells := 0, slots := 0, locals := 0 } : Room) s m #[(.ref r0)] below meth c s₁ [] 0 0 := Stand.of_body Bd
  have e0 : s₁.heap = h0 := by rw [← hh, Bd.state]; rfl
  have N0 := Fr.nil n0
  refine own_go (B := s₁.setTop (mkF m 0 (LS_R r0) [])) (fun t k => castTop (ef_2 m r0) k) ?_
  refine own_go (B := s₁.setTop (mkF m 1 (LS_R r0) [(.ref r0)])) (fun t k => ?_) ?_
  · show Steps p.tables e below (s₁.setTop (mkF m 0 (LS_R r0) [])) _
    refine XS.aloadN X0.here hx rfl (hb hby d2_0) rfl rfl ?_
    exact k
  obtain ⟨T1, X1, e1, st1⟩ := getS2 X0 hx hZ hown (host := "") (Or.inl (hw _ (List.mem_of_getElem? (i := 12) rfl))) Via.refl e0 S0 (g := (mkF m 1 (LS_R r0) [(.ref r0)])) rfl (hb hby d2_1)
  refine own_go (B := T1.setTop (mkF m 4 (LS_R r0) [(.ref w0), (.ref r0)])) (fun t k => st1 _ k) ?_
  by_cases hc4_2 : r0 = w0
  · refine own_go (B := T1.setTop (mkF m 26 (LS_R r0) [(.int (1 : Int32))])) (fun t k => ?_) ?_
    · show Steps p.tables e below (T1.setTop (mkF m 4 (LS_R r0) [(.ref w0), (.ref r0)])) _
      refine Jvm.RoadKit.acmp (g := (mkF m 4 (LS_R r0) [(.ref w0), (.ref r0)])) X1 hx rfl rfl rfl (pc0 := 4) (pc' := 21) (same := true) rfl (hb hby d2_4) rfl (decide_eq_true (congrArg Value.ref hc4_2)) (by decide) (by decide) ?_
      show Steps p.tables e below (T1.setTop (mkF m 21 (LS_R r0) [])) _
      refine XS.iconst X1.here hx rfl (hb hby d2_21) ?_
      show Steps p.tables e below (T1.setTop (mkF m 22 (LS_R r0) [(.int (1 : Int32))])) _
      refine XS.goto X1.here hx rfl (pc0 := 22) (pc' := 26) rfl (hb hby d2_22) (by decide) (by decide) ?_
      exact k
    obtain ⟨fs, hr, hrun, hended, hW, hsame⟩ := X1.leave (v := some (.int (1 : Int32))) (fun h => by rw [Bd.returns] at h; cases h)
    refine ⟨_, _, ?_, hrun, hended, _, _, rfl, ?_, ⟨_, rfl⟩, hW, hsame.mono (by decide) (by decide)⟩
    · show Steps p.tables e below (T1.setTop (mkF m 26 (LS_R r0) [(.int (1 : Int32))])) _
      exact retN X1 hx (t := .boolean) Bd.returns (by simp) (hb hby d2_26) hr
    · show Q2 Z r0 w0 w1 w2 h0 n0 _ T1.heap _
      rw [e1]
      exact ⟨by rw [if_pos hc4_2], N0, rfl⟩
  · refine own_go (B := T1.setTop (mkF m 8 (LS_R r0) [(.ref r0)])) (fun t k => ?_) ?_
    · show Steps p.tables e below (T1.setTop (mkF m 4 (LS_R r0) [(.ref w0), (.ref r0)])) _
      refine Jvm.RoadKit.acmp (g := (mkF m 4 (LS_R r0) [(.ref w0), (.ref r0)])) X1 hx rfl rfl rfl (pc0 := 4) (pc' := 7) (same := false) rfl (hb hby d2_4) rfl (decide_eq_false fun q => hc4_2 (Value.ref.inj q)) (by decide) (by decide) ?_
      show Steps p.tables e below (T1.setTop (mkF m 7 (LS_R r0) [])) _
      refine XS.aloadN X1.here hx rfl (hb hby d2_7) rfl rfl ?_
      exact k
    obtain ⟨T3, X3, e3, st3⟩ := getS2 X1 hx hZ hown (host := "") (Or.inl (hw _ (List.mem_of_getElem? (i := 22) rfl))) Via.refl e1 S1 (g := (mkF m 8 (LS_R r0) [(.ref r0)])) rfl (hb hby d2_8)
    refine own_go (B := T3.setTop (mkF m 11 (LS_R r0) [(.ref w1), (.ref r0)])) (fun t k => st3 _ k) ?_
    by_cases hc11_4 : r0 = w1
    · refine own_go (B := T3.setTop (mkF m 26 (LS_R r0) [(.int (1 : Int32))])) (fun t k => ?_) ?_
      · show Steps p.tables e below (T3.setTop (mkF m 11 (LS_R r0) [(.ref w1), (.ref r0)])) _
        refine Jvm.RoadKit.acmp (g := (mkF m 11 (LS_R r0) [(.ref w1), (.ref r0)])) X3 hx rfl rfl rfl (pc0 := 11) (pc' := 21) (same := true) rfl (hb hby d2_11) rfl (decide_eq_true (congrArg Value.ref hc11_4)) (by decide) (by decide) ?_
        show Steps p.tables e below (T3.setTop (mkF m 21 (LS_R r0) [])) _
        refine XS.iconst X3.here hx rfl (hb hby d2_21) ?_
        show Steps p.tables e below (T3.setTop (mkF m 22 (LS_R r0) [(.int (1 : Int32))])) _
        refine XS.goto X3.here hx rfl (pc0 := 22) (pc' := 26) rfl (hb hby d2_22) (by decide) (by decide) ?_
        exact k
      obtain ⟨fs, hr, hrun, hended, hW, hsame⟩ := X3.leave (v := some (.int (1 : Int32))) (fun h => by rw [Bd.returns] at h; cases h)
      refine ⟨_, _, ?_, hrun, hended, _, _, rfl, ?_, ⟨_, rfl⟩, hW, hsame.mono (by decide) (by decide)⟩
      · show Steps p.tables e below (T3.setTop (mkF m 26 (LS_R r0) [(.int (1 : Int32))])) _
        exact retN X3 hx (t := .boolean) Bd.returns (by simp) (hb hby d2_26) hr
      · show Q2 Z r0 w0 w1 w2 h0 n0 _ T3.heap _
        rw [e3]
        exact ⟨by rw [if_neg hc4_2, if_pos hc11_4], N0, rfl⟩
    · refine own_go (B := T3.setTop (mkF m 15 (LS_R r0) [(.ref r0)])) (fun t k => ?_) ?_
      · show Steps p.tables e below (T3.setTop (mkF m 11 (LS_R r0) [(.ref w1), (.ref r0)])) _
        refine Jvm.RoadKit.acmp (g := (mkF m 11 (LS_R r0) [(.ref w1), (.ref r0)])) X3 hx rfl rfl rfl (pc0 := 11) (pc' := 14) (same := false) rfl (hb hby d2_11) rfl (decide_eq_false fun q => hc11_4 (Value.ref.inj q)) (by decide) (by decide) ?_
        show Steps p.tables e below (T3.setTop (mkF m 14 (LS_R r0) [])) _
        refine XS.aloadN X3.here hx rfl (hb hby d2_14) rfl rfl ?_
        exact k
      obtain ⟨T5, X5, e5, st5⟩ := getS2 X3 hx hZ hown (host := "") (Or.inl (hw _ (List.mem_of_getElem? (i := 24) rfl))) Via.refl e3 S2 (g := (mkF m 15 (LS_R r0) [(.ref r0)])) rfl (hb hby d2_15)
      refine own_go (B := T5.setTop (mkF m 18 (LS_R r0) [(.ref w2), (.ref r0)])) (fun t k => st5 _ k) ?_
      by_cases hc18_6 : r0 = w2
      · refine own_go (B := T5.setTop (mkF m 26 (LS_R r0) [(.int (1 : Int32))])) (fun t k => ?_) ?_
        · show Steps p.tables e below (T5.setTop (mkF m 18 (LS_R r0) [(.ref w2), (.ref r0)])) _
          refine Jvm.RoadKit.acmp (g := (mkF m 18 (LS_R r0) [(.ref w2), (.ref r0)])) X5 hx rfl rfl rfl (pc0 := 18) (pc' := 21) (same := true) rfl (hb hby d2_18) rfl (decide_eq_true (congrArg Value.ref hc18_6)) (by decide) (by decide) ?_
          show Steps p.tables e below (T5.setTop (mkF m 21 (LS_R r0) [])) _
          refine XS.iconst X5.here hx rfl (hb hby d2_21) ?_
          show Steps p.tables e below (T5.setTop (mkF m 22 (LS_R r0) [(.int (1 : Int32))])) _
          refine XS.goto X5.here hx rfl (pc0 := 22) (pc' := 26) rfl (hb hby d2_22) (by decide) (by decide) ?_
          exact k
        obtain ⟨fs, hr, hrun, hended, hW, hsame⟩ := X5.leave (v := some (.int (1 : Int32))) (fun h => by rw [Bd.returns] at h; cases h)
        refine ⟨_, _, ?_, hrun, hended, _, _, rfl, ?_, ⟨_, rfl⟩, hW, hsame.mono (by decide) (by decide)⟩
        · show Steps p.tables e below (T5.setTop (mkF m 26 (LS_R r0) [(.int (1 : Int32))])) _
          exact retN X5 hx (t := .boolean) Bd.returns (by simp) (hb hby d2_26) hr
        · show Q2 Z r0 w0 w1 w2 h0 n0 _ T5.heap _
          rw [e5]
          exact ⟨by rw [if_neg hc4_2, if_neg hc11_4, if_pos hc18_6], N0, rfl⟩
      · refine own_go (B := T5.setTop (mkF m 26 (LS_R r0) [(.int (0 : Int32))])) (fun t k => ?_) ?_
        · show Steps p.tables e below (T5.setTop (mkF m 18 (LS_R r0) [(.ref w2), (.ref r0)])) _
          refine Jvm.RoadKit.acmp (g := (mkF m 18 (LS_R r0) [(.ref w2), (.ref r0)])) X5 hx rfl rfl rfl (pc0 := 18) (pc' := 25) (same := false) rfl (hb hby d2_18) rfl (decide_eq_false fun q => hc18_6 (Value.ref.inj q)) (by decide) (by decide) ?_
          show Steps p.tables e below (T5.setTop (mkF m 25 (LS_R r0) [])) _
          refine XS.iconst X5.here hx rfl (hb hby d2_25) ?_
          exact k
        obtain ⟨fs, hr, hrun, hended, hW, hsame⟩ := X5.leave (v := some (.int (0 : Int32))) (fun h => by rw [Bd.returns] at h; cases h)
        refine ⟨_, _, ?_, hrun, hended, _, _, rfl, ?_, ⟨_, rfl⟩, hW, hsame.mono (by decide) (by decide)⟩
        · show Steps p.tables e below (T5.setTop (mkF m 26 (LS_R r0) [(.int (0 : Int32))])) _
          exact retN X5 hx (t := .boolean) Bd.returns (by simp) (hb hby d2_26) hr
        · show Q2 Z r0 w0 w1 w2 h0 n0 _ T5.heap _
          rw [e5]
          exact ⟨by rw [if_neg hc4_2, if_neg hc11_4, if_neg hc18_6], N0, rfl⟩
theorem ef_3 (m : MethodId) (r0 : Addr) : entryFrame m #[(.ref r0)] 1 = mkF m 0 #[.val (.ref r0)] [] := by first | (simp [entryFrame, mkF, argsToLocals, Value.category]; done) | rfl
theorem pn_3 : plainName "com/example/weighted_scheduler/weightedscheduler/JobState" = true := by first | (simp [plainName, overriddenIn]; done) | decide +kernel
theorem d3_0 : decode prog_30_method_5_code 0 = .ok (.aload_n 0, 1) := by decide +kernel
theorem d3_1 : decode prog_30_method_5_code 1 = .ok (.getfield 51, 3) := by decide +kernel
theorem d3_4 : decode prog_30_method_5_code 4 = .ok (.ireturn, 1) := by decide +kernel
def Q3 (Z : State) (r0 : Addr) (p1 : Int32) (h0 : Heap) (n0 : Nat) (v : Option Value) (h : Heap) (L : List Loc) : Prop := v = some (.int p1) ∧ Fr n0 L ∧ h = h0
set_option maxRecDepth 65536 in
set_option maxHeartbeats 40000000 in
theorem rm3 (l : Launch) (Z : State) (a0 : Array Value) (hw : ∀ d ∈ tables_1, d.before a0 Z = true) (ws : List Jvm.Cond) (r0 : Addr) (p1 : Int32) (h0 : Heap) (n0 : Nat) (Z0 : n0 ≤ h0.size) (F0 : Fld Z h0 r0 "com/example/weighted_scheduler/weightedscheduler/JobState" "isFinal" "Z" (.int p1)) (hp : p1 &&& 1 = p1) :
    MetFree l (⟨"com/example/weighted_scheduler/weightedscheduler/JobState", "isFinal", "()Z"⟩ : MethodName) (head1 (Jvm.Cond.code (⟨"com/example/weighted_scheduler/weightedscheduler/JobState", "isFinal", "()Z"⟩ : MethodName) prog_30_method_5_code 1 (some .boolean) :: ws) ({ frames := 0, cells := 0, slots := 0, locals := 0 } : Room)) (fun a U => a = #[(.ref r0)] ∧ Z.Warmed39 U.vm ∧ U.heap = h0) (fun _ _ _ _ _ => True) (fun _ U o U' => ∃ v L, o = .returned v ∧ Q3 Z r0 p1 h0 n0 v U'.heap L ∧ FrameEnd U o U' L ({ frames := 0, cells := 0, slots := 0, locals := 0 } : Room).cells ({ frames := 0, cells := 0, slots := 0, locals := 0 } : Room).slots) := by
  refine MetFree.of_bodySF (plainFor_of_name pn_3) hisR ?_
  intro p e s m args below meth c s₁ Bd hml0 hP hK
  obtain ⟨rfl, hZ, hh⟩ := hP
  have hx := Bd.exec
  have hby := Bd.bytes
  have hml : c.maxLocals = 1 := hml0
  have hown : s.vm.findClass "com/example/weighted_scheduler/weightedscheduler/JobState" = some m.cls := findClass_of_methodNamed Bd.named
  have hnm := (name_of_methodNamed Bd.named Bd.method).1
  have X0 : Stand p l e ({ frames := 0, cells := 0, slots := 0, locals := 0 } : Room) s m #[(.ref r0)] below meth c s₁ [] 0 0 := Stand.of_body Bd
  have e0 : s₁.heap = h0 := by rw [← hh, Bd.state]; rfl
  have N0 := Fr.nil n0
  refine own_go (B := s₁.setTop (mkF m 0 (LS_R r0) [])) (fun t k => castTop (ef_3 m r0) k) ?_
  refine own_go (B := s₁.setTop (mkF m 1 (LS_R r0) [(.ref r0)])) (fun t k => ?_) ?_
  · show Steps p.tables e below (s₁.setTop (mkF m 0 (LS_R r0) [])) _
    refine XS.aloadN X0.here hx rfl (hb hby d3_0) rfl rfl ?_
    exact k
  obtain ⟨T1, X1, e1, st1⟩ := getF X0 hx hZ hown (host := "") (Or.inl (hw _ (List.mem_of_getElem? (i := 18) rfl))) Via.refl e0 F0 (g := (mkF m 1 (LS_R r0) [(.ref r0)])) rfl rfl (hb hby d3_1)
  refine own_go (B := T1.setTop (mkF m 4 (LS_R r0) [(.int p1)])) (fun t k => st1 _ k) ?_
  obtain ⟨fs, hr, hrun, hended, hW, hsame⟩ := X1.leave (v := some (.int p1)) (fun h => by rw [Bd.returns] at h; cases h)
  refine ⟨_, _, ?_, hrun, hended, _, _, rfl, ?_, ⟨_, rfl⟩, hW, hsame.mono (by decide) (by decide)⟩
  · show Steps p.tables e below (T1.setTop (mkF m 4 (LS_R r0) [(.int p1)])) _
    exact retN X1 hx (t := .boolean) (z := p1) Bd.returns (by simp) (hb hby d3_4) (by rw [show nar .boolean p1 = p1 from hp]; exact hr)
  · show Q3 Z r0 p1 h0 n0 _ T1.heap _
    rw [e1]
    exact ⟨rfl, N0, rfl⟩
theorem ef_0 (m : MethodId) (p0 : Int32) : entryFrame m #[(.int p0)] maxLocals = mkF m 0 #[.val (.int p0), .unset, .unset, .unset, .unset] [] := by first | (simp [entryFrame, mkF, argsToLocals, Value.category, maxLocals]; done) | rfl
theorem pn_0 : plainName "com/example/weighted_scheduler/weightedscheduler/JobStateIsWaitingPinLaw" = true := by first | (simp [plainName, overriddenIn]; done) | decide +kernel
abbrev LS_Iuuuu (a0 : Int32) : Array Slot := #[.val (.int a0), .unset, .unset, .unset, .unset]
abbrev LS_IIuuu (a0 : Int32) (a1 : Int32) : Array Slot := #[.val (.int a0), .val (.int a1), .unset, .unset, .unset]
theorem pd__I_Lcom_example_weighted_scheduler_weightedscheduler_JobState_ : parseMethodDescriptor "(I)Lcom/example/weighted_scheduler/weightedscheduler/JobState;" = some ⟨[.int], some (.object "com/example/weighted_scheduler/weightedscheduler/JobState")⟩ := by decide +kernel
abbrev LS_IIRuu (a0 : Int32) (a1 : Int32) (a2 : Addr) : Array Slot := #[.val (.int a0), .val (.int a1), .val (.ref a2), .unset, .unset]
abbrev LS_IIRIu (a0 : Int32) (a1 : Int32) (a2 : Addr) (a3 : Int32) : Array Slot := #[.val (.int a0), .val (.int a1), .val (.ref a2), .val (.int a3), .unset]
theorem pd___Z : parseMethodDescriptor "()Z" = some ⟨[], some .boolean⟩ := by decide +kernel
abbrev LS_IIRII (a0 : Int32) (a1 : Int32) (a2 : Addr) (a3 : Int32) (a4 : Int32) : Array Slot := #[.val (.int a0), .val (.int a1), .val (.ref a2), .val (.int a3), .val (.int a4)]
def Q0 (Z : State) (p0 : Int32) (w_JobState_SCHEDULED : Addr) (w_JobState_SUCCEEDED : Addr) (w_JobState_QUEUED : Addr) (w_JobState_RETRY_SCHEDULED : Addr) (w_JobState_EXPIRED : Addr) (w_JobState_CANCELLED : Addr) (w_JobState_LEASED : Addr) (w_JobState_DEAD : Addr) (h0 : Heap) (n0 : Nat) (v : Option Value) (h : Heap) (L : List Loc) : Prop := v = some (.int (1 : Int32)) ∧ Fr n0 L
set_option maxRecDepth 65536 in
set_option maxHeartbeats 40000000 in
theorem rm0 (l : Launch) (Z : State) (a0 : Array Value) (hw : ∀ d ∈ tables_1, d.before a0 Z = true) (ws : List Jvm.Cond) (p0 : Int32) (w_JobState_SCHEDULED : Addr) (w_JobState_SUCCEEDED : Addr) (w_JobState_QUEUED : Addr) (w_JobState_RETRY_SCHEDULED : Addr) (w_JobState_EXPIRED : Addr) (w_JobState_CANCELLED : Addr) (w_JobState_LEASED : Addr) (w_JobState_DEAD : Addr) (h0 : Heap) (n0 : Nat) (Z0 : n0 ≤ h0.size) (S_JobState_SCHEDULED : Sta Z h0 "com/example/weighted_scheduler/weightedscheduler/JobState" "SCHEDULED" "Lcom/example/weighted_scheduler/weightedscheduler/JobState;" (.ref w_JobState_SCHEDULED)) (E_JobState_SCHEDULED : Exa Z h0 w_JobState_SCHEDULED "com/example/weighted_scheduler/weightedscheduler/JobState") (S_JobState_SUCCEEDED : Sta Z h0 "com/example/weighted_scheduler/weightedscheduler/JobState" "SUCCEEDED" "Lcom/example/weighted_scheduler/weightedscheduler/JobState;" (.ref w_JobState_SUCCEEDED)) (E_JobState_SUCCEEDED : Exa Z h0 w_JobState_SUCCEEDED "com/example/weighted_scheduler/weightedscheduler/JobState") (S_JobState_QUEUED : Sta Z h0 "com/example/weighted_scheduler/weightedscheduler/JobState" "QUEUED" "Lcom/example/weighted_scheduler/weightedscheduler/JobState;" (.ref w_JobState_QUEUED)) (E_JobState_QUEUED : Exa Z h0 w_JobState_QUEUED "com/example/weighted_scheduler/weightedscheduler/JobState") (S_JobState_RETRY_SCHEDULED : Sta Z h0 "com/example/weighted_scheduler/weightedscheduler/JobState" "RETRY_SCHEDULED" "Lcom/example/weighted_scheduler/weightedscheduler/JobState;" (.ref w_JobState_RETRY_SCHEDULED)) (E_JobState_RETRY_SCHEDULED : Exa Z h0 w_JobState_RETRY_SCHEDULED "com/example/weighted_scheduler/weightedscheduler/JobState") (S_JobState_EXPIRED : Sta Z h0 "com/example/weighted_scheduler/weightedscheduler/JobState" "EXPIRED" "Lcom/example/weighted_scheduler/weightedscheduler/JobState;" (.ref w_JobState_EXPIRED)) (E_JobState_EXPIRED : Exa Z h0 w_JobState_EXPIRED "com/example/weighted_scheduler/weightedscheduler/JobState") (S_JobState_CANCELLED : Sta Z h0 "com/example/weighted_scheduler/weightedscheduler/JobState" "CANCELLED" "Lcom/example/weighted_scheduler/weightedscheduler/JobState;" (.ref w_JobState_CANCELLED)) (E_JobState_CANCELLED : Exa Z h0 w_JobState_CANCELLED "com/example/weighted_scheduler/weightedscheduler/JobState") (S_JobState_LEASED : Sta Z h0 "com/example/weighted_scheduler/weightedscheduler/JobState" "LEASED" "Lcom/example/weighted_scheduler/weightedscheduler/JobState;" (.ref w_JobState_LEASED)) (E_JobState_LEASED : Exa Z h0 w_JobState_LEASED "com/example/weighted_scheduler/weightedscheduler/JobState") (S_JobState_DEAD : Sta Z h0 "com/example/weighted_scheduler/weightedscheduler/JobState" "DEAD" "Lcom/example/weighted_scheduler/weightedscheduler/JobState;" (.ref w_JobState_DEAD)) (E_JobState_DEAD : Exa Z h0 w_JobState_DEAD "com/example/weighted_scheduler/weightedscheduler/JobState") (F_JobState_SCHEDULED_isFinal : Fld Z h0 w_JobState_SCHEDULED "com/example/weighted_scheduler/weightedscheduler/JobState" "isFinal" "Z" (.int (0 : Int32))) (F_JobState_SUCCEEDED_ordinal : Fld Z h0 w_JobState_SUCCEEDED "java/lang/Enum" "ordinal" "I" (.int (3 : Int32))) (F_JobState_SCHEDULED_ordinal : Fld Z h0 w_JobState_SCHEDULED "java/lang/Enum" "ordinal" "I" (.int (0 : Int32))) (F_JobState_QUEUED_ordinal : Fld Z h0 w_JobState_QUEUED "java/lang/Enum" "ordinal" "I" (.int (1 : Int32))) (F_JobState_RETRY_SCHEDULED_ordinal : Fld Z h0 w_JobState_RETRY_SCHEDULED "java/lang/Enum" "ordinal" "I" (.int (4 : Int32))) (F_JobState_EXPIRED_ordinal : Fld Z h0 w_JobState_EXPIRED "java/lang/Enum" "ordinal" "I" (.int (6 : Int32))) (F_JobState_CANCELLED_ordinal : Fld Z h0 w_JobState_CANCELLED "java/lang/Enum" "ordinal" "I" (.int (7 : Int32))) (F_JobState_LEASED_ordinal : Fld Z h0 w_JobState_LEASED "java/lang/Enum" "ordinal" "I" (.int (2 : Int32))) (F_JobState_QUEUED_isFinal : Fld Z h0 w_JobState_QUEUED "com/example/weighted_scheduler/weightedscheduler/JobState" "isFinal" "Z" (.int (0 : Int32))) (F_JobState_RETRY_SCHEDULED_isFinal : Fld Z h0 w_JobState_RETRY_SCHEDULED "com/example/weighted_scheduler/weightedscheduler/JobState" "isFinal" "Z" (.int (0 : Int32))) (F_JobState_DEAD_ordinal : Fld Z h0 w_JobState_DEAD "java/lang/Enum" "ordinal" "I" (.int (5 : Int32))) (F_JobState_SUCCEEDED_isFinal : Fld Z h0 w_JobState_SUCCEEDED "com/example/weighted_scheduler/weightedscheduler/JobState" "isFinal" "Z" (.int (1 : Int32))) (F_JobState_EXPIRED_isFinal : Fld Z h0 w_JobState_EXPIRED "com/example/weighted_scheduler/weightedscheduler/JobState" "isFinal" "Z" (.int (1 : Int32))) (F_JobState_CANCELLED_isFinal : Fld Z h0 w_JobState_CANCELLED "com/example/weighted_scheduler/weightedscheduler/JobState" "isFinal" "Z" (.int (1 : Int32))) (F_JobState_LEASED_isFinal : Fld Z h0 w_JobState_LEASED "com/example/weighted_scheduler/weightedscheduler/JobState" "isFinal" "Z" (.int (0 : Int32))) (F_JobState_DEAD_isFinal : Fld Z h0 w_JobState_DEAD "com/example/weighted_scheduler/weightedscheduler/JobState" "isFinal" "Z" (.int (1 : Int32))) :
    MetFree l x (head1 (Jvm.Cond.code x code maxLocals ret :: ws) room_1) (fun a U => a = #[(.int p0)] ∧ Z.Warmed39 U.vm ∧ U.heap = h0) (fun _ _ _ _ _ => True) (fun _ U o U' => ∃ v L, o = .returned v ∧ Q0 Z p0 w_JobState_SCHEDULED w_JobState_SUCCEEDED w_JobState_QUEUED w_JobState_RETRY_SCHEDULED w_JobState_EXPIRED w_JobState_CANCELLED w_JobState_LEASED w_JobState_DEAD h0 n0 v U'.heap L ∧ FrameEnd U o U' L room_1.cells room_1.slots) := by
  refine MetFree.of_bodySF (plainFor_of_name pn_0) hisR ?_
  intro p e s m args below meth c s₁ Bd hml0 hP hK
  obtain ⟨rfl, hZ, hh⟩ := hP
  have hx := Bd.exec
  have hby := Bd.bytes
  have hml : c.maxLocals = 5 := hml0
  have hown : s.vm.findClass "com/example/weighted_scheduler/weightedscheduler/JobStateIsWaitingPinLaw" = some m.cls := findClass_of_methodNamed Bd.named
  have hnm := (name_of_methodNamed Bd.named Bd.method).1
  have X0 : Stand p l e room_1 s m #[(.int p0)] below meth c s₁ [] 0 0 := Stand.of_body Bd
  have e0 : s₁.heap = h0 := by rw [← hh, Bd.state]; rfl
  have N0 := Fr.nil n0
  refine own_go (B := s₁.setTop (mkF m 0 (LS_Iuuuu p0) [])) (fun t k => castTop (ef_0 m p0) k) ?_
  refine own_go (B := s₁.setTop (mkF m 4 (LS_Iuuuu p0) [(.int (p0 &&& (7 : Int32)))])) (fun t k => ?_) ?_
  · show Steps p.tables e below (s₁.setTop (mkF m 0 (LS_Iuuuu p0) [])) _
    refine XS.iloadN X0.here hx rfl (hb hby at_0) rfl ?_
    show Steps p.tables e below (s₁.setTop (mkF m 1 (LS_Iuuuu p0) [(.int p0)])) _
    refine XS.bipush X0.here hx rfl (hb hby at_1) ?_
    show Steps p.tables e below (s₁.setTop (mkF m 3 (LS_Iuuuu p0) [(.int (7 : Int32)), (.int p0)])) _
    refine XS.iand X0.here hx rfl (hb hby at_3) rfl ?_
    exact k
  rcases own_and7 p0 with hk1 | hk1 | hk1 | hk1 | hk1 | hk1 | hk1 | hk1
  · rw [hk1]
    refine own_go (B := s₁.setTop (mkF m 6 (LS_IIuuu p0 (0 : Int32)) [(.int (0 : Int32))])) (fun t k => ?_) ?_
    · show Steps p.tables e below (s₁.setTop (mkF m 4 (LS_Iuuuu p0) [(.int (0 : Int32))])) _
      refine XS.istoreN X0.here hx rfl (hb hby at_4) rfl (l' := (LS_IIuuu p0 (0 : Int32))) rfl ?_
      show Steps p.tables e below (s₁.setTop (mkF m 5 (LS_IIuuu p0 (0 : Int32)) [])) _
      refine XS.iloadN X0.here hx rfl (hb hby at_5) rfl ?_
      exact k
    obtain ⟨_, _, ⟨T2, L2, k2, n2⟩, -, X2, ⟨Lc2, hQ2, l2, y2, z2⟩, st2⟩ := Jvm.LawKit.callS X0 hx (y := (⟨"com/example/weighted_scheduler/weightedscheduler/JobStateIsWaitingPinLaw", "pick", "(I)Lcom/example/weighted_scheduler/weightedscheduler/JobState;"⟩ : MethodName)) hown (mvT hZ (hw _ (List.mem_of_getElem? (i := 0) rfl))) (mvT hZ (hw _ (List.mem_of_getElem? (i := 1) rfl))) (mvT hZ (hw _ (List.mem_of_getElem? (i := 2) rfl))) (mvT hZ (hw _ (List.mem_of_getElem? (i := 3) rfl))) (by decide) (backOf (W := 0) (rm1_0 l Z a0 hw [] w_JobState_SCHEDULED h0 n0 Z0 S_JobState_SCHEDULED) hZ (hw _ (List.mem_of_getElem? (i := 3) rfl)) (hw _ (List.mem_of_getElem? (i := 2) rfl)) (by decide) (by decide)) (g := (mkF m 6 (LS_IIuuu p0 (0 : Int32)) [(.int (0 : Int32))])) rfl (by rw [hml]; rfl) (argsL := [(.int (0 : Int32))]) (rest := []) (lenOf pd__I_Lcom_example_weighted_scheduler_weightedscheduler_JobState_ rfl) rfl (by show 2 * 0 + _ ≤ _; exact Nat.le_of_eq rfl) (hb hby at_6) (fun _ _ => ⟨rfl, e0, (by decide : 0 + 0 ≤ _), (by decide : 0 + 0 ≤ _)⟩)
    dsimp only [Pt.U, Pt.locs, Pt.cells, Pt.slots] at X2 l2 y2 z2 st2 hQ2
    subst l2 y2 z2
    obtain ⟨rfl, N2q, e2⟩ := hQ2
    have N2 := Fr.app N0 N2q
    refine own_go (B := T2.setTop (mkF m 9 (LS_IIuuu p0 (0 : Int32)) [(.ref w_JobState_SCHEDULED)])) (fun t k => st2 _ k) ?_
    refine own_go (B := T2.setTop (mkF m 31 (LS_IIRIu p0 (0 : Int32) w_JobState_SCHEDULED (1 : Int32)) [(.ref w_JobState_SCHEDULED)])) (fun t k => ?_) ?_
    · show Steps p.tables e below (T2.setTop (mkF m 9 (LS_IIuuu p0 (0 : Int32)) [(.ref w_JobState_SCHEDULED)])) _
      refine XS.astoreN X2.here hx rfl (hb hby at_9) rfl rfl (l' := (LS_IIRuu p0 (0 : Int32) w_JobState_SCHEDULED)) rfl ?_
      show Steps p.tables e below (T2.setTop (mkF m 10 (LS_IIRuu p0 (0 : Int32) w_JobState_SCHEDULED) [])) _
      refine XS.iloadN X2.here hx rfl (hb hby at_10) rfl ?_
      show Steps p.tables e below (T2.setTop (mkF m 11 (LS_IIRuu p0 (0 : Int32) w_JobState_SCHEDULED) [(.int (0 : Int32))])) _
      refine XS.ifYes X2.here hx rfl (pc0 := 11) (pc' := 24) rfl (hb hby at_11) rfl ((if0 _ _).trans (teq (by decide : (0 : Int32) = (0 : Int32))).1) (by decide) (by decide) ?_
      show Steps p.tables e below (T2.setTop (mkF m 24 (LS_IIRuu p0 (0 : Int32) w_JobState_SCHEDULED) [])) _
      refine XS.iconst X2.here hx rfl (hb hby at_24) ?_
      show Steps p.tables e below (T2.setTop (mkF m 25 (LS_IIRuu p0 (0 : Int32) w_JobState_SCHEDULED) [(.int (1 : Int32))])) _
      refine XS.goto X2.here hx rfl (pc0 := 25) (pc' := 29) rfl (hb hby at_25) (by decide) (by decide) ?_
      show Steps p.tables e below (T2.setTop (mkF m 29 (LS_IIRuu p0 (0 : Int32) w_JobState_SCHEDULED) [(.int (1 : Int32))])) _
      refine XS.istoreN X2.here hx rfl (hb hby at_29) rfl (l' := (LS_IIRIu p0 (0 : Int32) w_JobState_SCHEDULED (1 : Int32))) rfl ?_
      show Steps p.tables e below (T2.setTop (mkF m 30 (LS_IIRIu p0 (0 : Int32) w_JobState_SCHEDULED (1 : Int32)) [])) _
      refine XS.aloadN X2.here hx rfl (hb hby at_30) rfl rfl ?_
      exact k
    obtain ⟨cq3, kq3, q3a, q3b, q3c⟩ := isOf hZ e2 E_JobState_SCHEDULED
    obtain ⟨_, _, ⟨T3, L3, k3, n3⟩, -, X3, ⟨Lc3, hQ3, l3, y3, z3⟩, st3⟩ := X2.virtualBack hx (y := (⟨"com/example/weighted_scheduler/weightedscheduler/JobState", "isWaiting", "()Z"⟩ : MethodName)) (z := (⟨"com/example/weighted_scheduler/weightedscheduler/JobState", "isWaiting", "()Z"⟩ : MethodName)) hown (mvT hZ (hw _ (List.mem_of_getElem? (i := 7) rfl))) (mvT hZ (hw _ (List.mem_of_getElem? (i := 8) rfl))) (notFace_of_selects (args := #[]) (mvT hZ (hw _ (List.mem_of_getElem? (i := 10) rfl)))) (mvT hZ (hw _ (List.mem_of_getElem? (i := 10) rfl))) (mvT hZ (hw _ (List.mem_of_getElem? (i := 9) rfl))) (by decide) (backOf (W := 0) (rm2 l Z a0 hw [] w_JobState_SCHEDULED w_JobState_SCHEDULED w_JobState_QUEUED w_JobState_RETRY_SCHEDULED h0 n0 Z0 S_JobState_SCHEDULED S_JobState_QUEUED S_JobState_RETRY_SCHEDULED) hZ (hw _ (List.mem_of_getElem? (i := 11) rfl)) (hw _ (List.mem_of_getElem? (i := 5) rfl)) (by decide) (by decide)) q3a q3c (g := (mkF m 31 (LS_IIRIu p0 (0 : Int32) w_JobState_SCHEDULED (1 : Int32)) [(.ref w_JobState_SCHEDULED)])) rfl (by rw [hml]; rfl) (Steps.refl _) (argsL := []) (rest := []) (lenOf pd___Z rfl) rfl (by show 2 * 0 + _ ≤ _; exact Nat.le_of_eq rfl) (hb hby at_31) (fun _ _ => ⟨rfl, e2, (by decide : 0 + 0 ≤ _), (by decide : 0 + 0 ≤ _)⟩)
    dsimp only [Pt.U, Pt.locs, Pt.cells, Pt.slots] at X3 l3 y3 z3 st3 hQ3
    subst l3 y3 z3
    obtain ⟨rfl, N3q, e3⟩ := hQ3
    have N3 := Fr.app N2 N3q
    refine own_go (B := T3.setTop (mkF m 34 (LS_IIRIu p0 (0 : Int32) w_JobState_SCHEDULED (1 : Int32)) [(.int (if w_JobState_SCHEDULED = w_JobState_SCHEDULED then (1 : Int32) else if w_JobState_SCHEDULED = w_JobState_QUEUED then (1 : Int32) else if w_JobState_SCHEDULED = w_JobState_RETRY_SCHEDULED then (1 : Int32) else (0 : Int32)))])) (fun t k => st3.trans k) ?_
    rw [show (if w_JobState_SCHEDULED = w_JobState_SCHEDULED then (1 : Int32) else if w_JobState_SCHEDULED = w_JobState_QUEUED then (1 : Int32) else if w_JobState_SCHEDULED = w_JobState_RETRY_SCHEDULED then (1 : Int32) else (0 : Int32)) = (1 : Int32) from by rw [if_pos rfl]]
    refine own_go (B := T3.setTop (mkF m 50 (LS_IIRII p0 (0 : Int32) w_JobState_SCHEDULED (1 : Int32) (1 : Int32)) [(.ref w_JobState_SCHEDULED)])) (fun t k => ?_) ?_
    · show Steps p.tables e below (T3.setTop (mkF m 34 (LS_IIRIu p0 (0 : Int32) w_JobState_SCHEDULED (1 : Int32)) [(.int (1 : Int32))])) _
      refine XS.istore X3.here hx rfl (hb hby at_34) rfl (l' := (LS_IIRII p0 (0 : Int32) w_JobState_SCHEDULED (1 : Int32) (1 : Int32))) rfl ?_
      show Steps p.tables e below (T3.setTop (mkF m 36 (LS_IIRII p0 (0 : Int32) w_JobState_SCHEDULED (1 : Int32) (1 : Int32)) [])) _
      refine XS.iload X3.here hx rfl (hb hby at_36) rfl ?_
      show Steps p.tables e below (T3.setTop (mkF m 38 (LS_IIRII p0 (0 : Int32) w_JobState_SCHEDULED (1 : Int32) (1 : Int32)) [(.int (1 : Int32))])) _
      refine XS.iloadN X3.here hx rfl (hb hby at_38) rfl ?_
      show Steps p.tables e below (T3.setTop (mkF m 39 (LS_IIRII p0 (0 : Int32) w_JobState_SCHEDULED (1 : Int32) (1 : Int32)) [(.int (1 : Int32)), (.int (1 : Int32))])) _
      refine XS.icmpYes X3.here hx rfl (pc0 := 39) (pc' := 44) rfl (hb hby at_39) rfl (teq (by decide : (1 : Int32) = (1 : Int32))).1 (by decide) (by decide) ?_
      show Steps p.tables e below (T3.setTop (mkF m 44 (LS_IIRII p0 (0 : Int32) w_JobState_SCHEDULED (1 : Int32) (1 : Int32)) [])) _
      refine XS.iload X3.here hx rfl (hb hby at_44) rfl ?_
      show Steps p.tables e below (T3.setTop (mkF m 46 (LS_IIRII p0 (0 : Int32) w_JobState_SCHEDULED (1 : Int32) (1 : Int32)) [(.int (1 : Int32))])) _
      refine XS.ifNo X3.here hx rfl (hb hby at_46) rfl ((if0 _ _).trans (feq (by decide : ¬ ((1 : Int32) = (0 : Int32)))).1) ?_
      show Steps p.tables e below (T3.setTop (mkF m 49 (LS_IIRII p0 (0 : Int32) w_JobState_SCHEDULED (1 : Int32) (1 : Int32)) [])) _
      refine XS.aloadN X3.here hx rfl (hb hby at_49) rfl rfl ?_
      exact k
    obtain ⟨cq4, kq4, q4a, q4b, q4c⟩ := isOf hZ e3 E_JobState_SCHEDULED
    obtain ⟨_, _, ⟨T4, L4, k4, n4⟩, -, X4, ⟨Lc4, hQ4, l4, y4, z4⟩, st4⟩ := X3.virtualBack hx (y := (⟨"com/example/weighted_scheduler/weightedscheduler/JobState", "isFinal", "()Z"⟩ : MethodName)) (z := (⟨"com/example/weighted_scheduler/weightedscheduler/JobState", "isFinal", "()Z"⟩ : MethodName)) hown (mvT hZ (hw _ (List.mem_of_getElem? (i := 13) rfl))) (mvT hZ (hw _ (List.mem_of_getElem? (i := 14) rfl))) (notFace_of_selects (args := #[]) (mvT hZ (hw _ (List.mem_of_getElem? (i := 16) rfl)))) (mvT hZ (hw _ (List.mem_of_getElem? (i := 16) rfl))) (mvT hZ (hw _ (List.mem_of_getElem? (i := 15) rfl))) (by decide) (backOf (W := 0) (rm3 l Z a0 hw [] w_JobState_SCHEDULED (0 : Int32) h0 n0 Z0 F_JobState_SCHEDULED_isFinal (by decide)) hZ (hw _ (List.mem_of_getElem? (i := 17) rfl)) (hw _ (List.mem_of_getElem? (i := 5) rfl)) (by decide) (by decide)) q4a q4c (g := (mkF m 50 (LS_IIRII p0 (0 : Int32) w_JobState_SCHEDULED (1 : Int32) (1 : Int32)) [(.ref w_JobState_SCHEDULED)])) rfl (by rw [hml]; rfl) (Steps.refl _) (argsL := []) (rest := []) (lenOf pd___Z rfl) rfl (by show 2 * 0 + _ ≤ _; exact Nat.le_of_eq rfl) (hb hby at_50) (fun _ _ => ⟨rfl, e3, (by decide : 0 + 0 ≤ _), (by decide : 0 + 0 ≤ _)⟩)
    dsimp only [Pt.U, Pt.locs, Pt.cells, Pt.slots] at X4 l4 y4 z4 st4 hQ4
    subst l4 y4 z4
    obtain ⟨rfl, N4q, e4⟩ := hQ4
    have N4 := Fr.app N3 N4q
    refine own_go (B := T4.setTop (mkF m 53 (LS_IIRII p0 (0 : Int32) w_JobState_SCHEDULED (1 : Int32) (1 : Int32)) [(.int (0 : Int32))])) (fun t k => st4.trans k) ?_
    refine own_go (B := T4.setTop (mkF m 59 (LS_IIRII p0 (0 : Int32) w_JobState_SCHEDULED (1 : Int32) (1 : Int32)) [(.int (1 : Int32))])) (fun t k => ?_) ?_
    · show Steps p.tables e below (T4.setTop (mkF m 53 (LS_IIRII p0 (0 : Int32) w_JobState_SCHEDULED (1 : Int32) (1 : Int32)) [(.int (0 : Int32))])) _
      refine XS.ifYes X4.here hx rfl (pc0 := 53) (pc' := 58) rfl (hb hby at_53) rfl ((if0 _ _).trans (teq (by decide : (0 : Int32) = (0 : Int32))).1) (by decide) (by decide) ?_
      show Steps p.tables e below (T4.setTop (mkF m 58 (LS_IIRII p0 (0 : Int32) w_JobState_SCHEDULED (1 : Int32) (1 : Int32)) [])) _
      refine XS.iconst X4.here hx rfl (hb hby at_58) ?_
      exact k
    obtain ⟨fs, hr, hrun, hended, hW, hsame⟩ := X4.leave (v := some (.int (1 : Int32))) (fun h => by rw [Bd.returns] at h; cases h)
    refine ⟨_, _, ?_, hrun, hended, _, _, rfl, ?_, ⟨_, rfl⟩, hW, hsame.mono (by decide) (by decide)⟩
    · show Steps p.tables e below (T4.setTop (mkF m 59 (LS_IIRII p0 (0 : Int32) w_JobState_SCHEDULED (1 : Int32) (1 : Int32)) [(.int (1 : Int32))])) _
      exact retN X4 hx (t := .boolean) Bd.returns (by simp) (hb hby at_59) hr
    · show Q0 Z p0 w_JobState_SCHEDULED w_JobState_SUCCEEDED w_JobState_QUEUED w_JobState_RETRY_SCHEDULED w_JobState_EXPIRED w_JobState_CANCELLED w_JobState_LEASED w_JobState_DEAD h0 n0 _ T4.heap _
      rw [e4]
      exact ⟨rfl, N4⟩
  · rw [hk1]
    refine own_go (B := s₁.setTop (mkF m 6 (LS_IIuuu p0 (1 : Int32)) [(.int (1 : Int32))])) (fun t k => ?_) ?_
    · show Steps p.tables e below (s₁.setTop (mkF m 4 (LS_Iuuuu p0) [(.int (1 : Int32))])) _
      refine XS.istoreN X0.here hx rfl (hb hby at_4) rfl (l' := (LS_IIuuu p0 (1 : Int32))) rfl ?_
      show Steps p.tables e below (s₁.setTop (mkF m 5 (LS_IIuuu p0 (1 : Int32)) [])) _
      refine XS.iloadN X0.here hx rfl (hb hby at_5) rfl ?_
      exact k
    obtain ⟨_, _, ⟨T5, L5, k5, n5⟩, -, X5, ⟨Lc5, hQ5, l5, y5, z5⟩, st5⟩ := Jvm.LawKit.callS X0 hx (y := (⟨"com/example/weighted_scheduler/weightedscheduler/JobStateIsWaitingPinLaw", "pick", "(I)Lcom/example/weighted_scheduler/weightedscheduler/JobState;"⟩ : MethodName)) hown (mvT hZ (hw _ (List.mem_of_getElem? (i := 0) rfl))) (mvT hZ (hw _ (List.mem_of_getElem? (i := 1) rfl))) (mvT hZ (hw _ (List.mem_of_getElem? (i := 2) rfl))) (mvT hZ (hw _ (List.mem_of_getElem? (i := 3) rfl))) (by decide) (backOf (W := 0) (rm1_1 l Z a0 hw [] w_JobState_QUEUED h0 n0 Z0 S_JobState_QUEUED) hZ (hw _ (List.mem_of_getElem? (i := 3) rfl)) (hw _ (List.mem_of_getElem? (i := 2) rfl)) (by decide) (by decide)) (g := (mkF m 6 (LS_IIuuu p0 (1 : Int32)) [(.int (1 : Int32))])) rfl (by rw [hml]; rfl) (argsL := [(.int (1 : Int32))]) (rest := []) (lenOf pd__I_Lcom_example_weighted_scheduler_weightedscheduler_JobState_ rfl) rfl (by show 2 * 0 + _ ≤ _; exact Nat.le_of_eq rfl) (hb hby at_6) (fun _ _ => ⟨rfl, e0, (by decide : 0 + 0 ≤ _), (by decide : 0 + 0 ≤ _)⟩)
    dsimp only [Pt.U, Pt.locs, Pt.cells, Pt.slots] at X5 l5 y5 z5 st5 hQ5
    subst l5 y5 z5
    obtain ⟨rfl, N5q, e5⟩ := hQ5
    have N5 := Fr.app N0 N5q
    refine own_go (B := T5.setTop (mkF m 9 (LS_IIuuu p0 (1 : Int32)) [(.ref w_JobState_QUEUED)])) (fun t k => st5 _ k) ?_
    refine own_go (B := T5.setTop (mkF m 31 (LS_IIRIu p0 (1 : Int32) w_JobState_QUEUED (1 : Int32)) [(.ref w_JobState_QUEUED)])) (fun t k => ?_) ?_
    · show Steps p.tables e below (T5.setTop (mkF m 9 (LS_IIuuu p0 (1 : Int32)) [(.ref w_JobState_QUEUED)])) _
      refine XS.astoreN X5.here hx rfl (hb hby at_9) rfl rfl (l' := (LS_IIRuu p0 (1 : Int32) w_JobState_QUEUED)) rfl ?_
      show Steps p.tables e below (T5.setTop (mkF m 10 (LS_IIRuu p0 (1 : Int32) w_JobState_QUEUED) [])) _
      refine XS.iloadN X5.here hx rfl (hb hby at_10) rfl ?_
      show Steps p.tables e below (T5.setTop (mkF m 11 (LS_IIRuu p0 (1 : Int32) w_JobState_QUEUED) [(.int (1 : Int32))])) _
      refine XS.ifNo X5.here hx rfl (hb hby at_11) rfl ((if0 _ _).trans (feq (by decide : ¬ ((1 : Int32) = (0 : Int32)))).1) ?_
      show Steps p.tables e below (T5.setTop (mkF m 14 (LS_IIRuu p0 (1 : Int32) w_JobState_QUEUED) [])) _
      refine XS.iloadN X5.here hx rfl (hb hby at_14) rfl ?_
      show Steps p.tables e below (T5.setTop (mkF m 15 (LS_IIRuu p0 (1 : Int32) w_JobState_QUEUED) [(.int (1 : Int32))])) _
      refine XS.iconst X5.here hx rfl (hb hby at_15) ?_
      show Steps p.tables e below (T5.setTop (mkF m 16 (LS_IIRuu p0 (1 : Int32) w_JobState_QUEUED) [(.int (1 : Int32)), (.int (1 : Int32))])) _
      refine XS.icmpYes X5.here hx rfl (pc0 := 16) (pc' := 24) rfl (hb hby at_16) rfl (teq (by decide : (1 : Int32) = (1 : Int32))).1 (by decide) (by decide) ?_
      show Steps p.tables e below (T5.setTop (mkF m 24 (LS_IIRuu p0 (1 : Int32) w_JobState_QUEUED) [])) _
      refine XS.iconst X5.here hx rfl (hb hby at_24) ?_
      show Steps p.tables e below (T5.setTop (mkF m 25 (LS_IIRuu p0 (1 : Int32) w_JobState_QUEUED) [(.int (1 : Int32))])) _
      refine XS.goto X5.here hx rfl (pc0 := 25) (pc' := 29) rfl (hb hby at_25) (by decide) (by decide) ?_
      show Steps p.tables e below (T5.setTop (mkF m 29 (LS_IIRuu p0 (1 : Int32) w_JobState_QUEUED) [(.int (1 : Int32))])) _
      refine XS.istoreN X5.here hx rfl (hb hby at_29) rfl (l' := (LS_IIRIu p0 (1 : Int32) w_JobState_QUEUED (1 : Int32))) rfl ?_
      show Steps p.tables e below (T5.setTop (mkF m 30 (LS_IIRIu p0 (1 : Int32) w_JobState_QUEUED (1 : Int32)) [])) _
      refine XS.aloadN X5.here hx rfl (hb hby at_30) rfl rfl ?_
      exact k
    obtain ⟨cq6, kq6, q6a, q6b, q6c⟩ := isOf hZ e5 E_JobState_QUEUED
    obtain ⟨_, _, ⟨T6, L6, k6, n6⟩, -, X6, ⟨Lc6, hQ6, l6, y6, z6⟩, st6⟩ := X5.virtualBack hx (y := (⟨"com/example/weighted_scheduler/weightedscheduler/JobState", "isWaiting", "()Z"⟩ : MethodName)) (z := (⟨"com/example/weighted_scheduler/weightedscheduler/JobState", "isWaiting", "()Z"⟩ : MethodName)) hown (mvT hZ (hw _ (List.mem_of_getElem? (i := 7) rfl))) (mvT hZ (hw _ (List.mem_of_getElem? (i := 8) rfl))) (notFace_of_selects (args := #[]) (mvT hZ (hw _ (List.mem_of_getElem? (i := 10) rfl)))) (mvT hZ (hw _ (List.mem_of_getElem? (i := 10) rfl))) (mvT hZ (hw _ (List.mem_of_getElem? (i := 9) rfl))) (by decide) (backOf (W := 0) (rm2 l Z a0 hw [] w_JobState_QUEUED w_JobState_SCHEDULED w_JobState_QUEUED w_JobState_RETRY_SCHEDULED h0 n0 Z0 S_JobState_SCHEDULED S_JobState_QUEUED S_JobState_RETRY_SCHEDULED) hZ (hw _ (List.mem_of_getElem? (i := 11) rfl)) (hw _ (List.mem_of_getElem? (i := 5) rfl)) (by decide) (by decide)) q6a q6c (g := (mkF m 31 (LS_IIRIu p0 (1 : Int32) w_JobState_QUEUED (1 : Int32)) [(.ref w_JobState_QUEUED)])) rfl (by rw [hml]; rfl) (Steps.refl _) (argsL := []) (rest := []) (lenOf pd___Z rfl) rfl (by show 2 * 0 + _ ≤ _; exact Nat.le_of_eq rfl) (hb hby at_31) (fun _ _ => ⟨rfl, e5, (by decide : 0 + 0 ≤ _), (by decide : 0 + 0 ≤ _)⟩)
    dsimp only [Pt.U, Pt.locs, Pt.cells, Pt.slots] at X6 l6 y6 z6 st6 hQ6
    subst l6 y6 z6
    obtain ⟨rfl, N6q, e6⟩ := hQ6
    have N6 := Fr.app N5 N6q
    refine own_go (B := T6.setTop (mkF m 34 (LS_IIRIu p0 (1 : Int32) w_JobState_QUEUED (1 : Int32)) [(.int (if w_JobState_QUEUED = w_JobState_SCHEDULED then (1 : Int32) else if w_JobState_QUEUED = w_JobState_QUEUED then (1 : Int32) else if w_JobState_QUEUED = w_JobState_RETRY_SCHEDULED then (1 : Int32) else (0 : Int32)))])) (fun t k => st6.trans k) ?_
    rw [show (if w_JobState_QUEUED = w_JobState_SCHEDULED then (1 : Int32) else if w_JobState_QUEUED = w_JobState_QUEUED then (1 : Int32) else if w_JobState_QUEUED = w_JobState_RETRY_SCHEDULED then (1 : Int32) else (0 : Int32)) = (1 : Int32) from by rw [if_neg (Fld.ne F_JobState_QUEUED_ordinal F_JobState_SCHEDULED_ordinal (by decide)), if_pos rfl]]
    refine own_go (B := T6.setTop (mkF m 50 (LS_IIRII p0 (1 : Int32) w_JobState_QUEUED (1 : Int32) (1 : Int32)) [(.ref w_JobState_QUEUED)])) (fun t k => ?_) ?_
    · show Steps p.tables e below (T6.setTop (mkF m 34 (LS_IIRIu p0 (1 : Int32) w_JobState_QUEUED (1 : Int32)) [(.int (1 : Int32))])) _
      refine XS.istore X6.here hx rfl (hb hby at_34) rfl (l' := (LS_IIRII p0 (1 : Int32) w_JobState_QUEUED (1 : Int32) (1 : Int32))) rfl ?_
      show Steps p.tables e below (T6.setTop (mkF m 36 (LS_IIRII p0 (1 : Int32) w_JobState_QUEUED (1 : Int32) (1 : Int32)) [])) _
      refine XS.iload X6.here hx rfl (hb hby at_36) rfl ?_
      show Steps p.tables e below (T6.setTop (mkF m 38 (LS_IIRII p0 (1 : Int32) w_JobState_QUEUED (1 : Int32) (1 : Int32)) [(.int (1 : Int32))])) _
      refine XS.iloadN X6.here hx rfl (hb hby at_38) rfl ?_
      show Steps p.tables e below (T6.setTop (mkF m 39 (LS_IIRII p0 (1 : Int32) w_JobState_QUEUED (1 : Int32) (1 : Int32)) [(.int (1 : Int32)), (.int (1 : Int32))])) _
      refine XS.icmpYes X6.here hx rfl (pc0 := 39) (pc' := 44) rfl (hb hby at_39) rfl (teq (by decide : (1 : Int32) = (1 : Int32))).1 (by decide) (by decide) ?_
      show Steps p.tables e below (T6.setTop (mkF m 44 (LS_IIRII p0 (1 : Int32) w_JobState_QUEUED (1 : Int32) (1 : Int32)) [])) _
      refine XS.iload X6.here hx rfl (hb hby at_44) rfl ?_
      show Steps p.tables e below (T6.setTop (mkF m 46 (LS_IIRII p0 (1 : Int32) w_JobState_QUEUED (1 : Int32) (1 : Int32)) [(.int (1 : Int32))])) _
      refine XS.ifNo X6.here hx rfl (hb hby at_46) rfl ((if0 _ _).trans (feq (by decide : ¬ ((1 : Int32) = (0 : Int32)))).1) ?_
      show Steps p.tables e below (T6.setTop (mkF m 49 (LS_IIRII p0 (1 : Int32) w_JobState_QUEUED (1 : Int32) (1 : Int32)) [])) _
      refine XS.aloadN X6.here hx rfl (hb hby at_49) rfl rfl ?_
      exact k
    obtain ⟨cq7, kq7, q7a, q7b, q7c⟩ := isOf hZ e6 E_JobState_QUEUED
    obtain ⟨_, _, ⟨T7, L7, k7, n7⟩, -, X7, ⟨Lc7, hQ7, l7, y7, z7⟩, st7⟩ := X6.virtualBack hx (y := (⟨"com/example/weighted_scheduler/weightedscheduler/JobState", "isFinal", "()Z"⟩ : MethodName)) (z := (⟨"com/example/weighted_scheduler/weightedscheduler/JobState", "isFinal", "()Z"⟩ : MethodName)) hown (mvT hZ (hw _ (List.mem_of_getElem? (i := 13) rfl))) (mvT hZ (hw _ (List.mem_of_getElem? (i := 14) rfl))) (notFace_of_selects (args := #[]) (mvT hZ (hw _ (List.mem_of_getElem? (i := 16) rfl)))) (mvT hZ (hw _ (List.mem_of_getElem? (i := 16) rfl))) (mvT hZ (hw _ (List.mem_of_getElem? (i := 15) rfl))) (by decide) (backOf (W := 0) (rm3 l Z a0 hw [] w_JobState_QUEUED (0 : Int32) h0 n0 Z0 F_JobState_QUEUED_isFinal (by decide)) hZ (hw _ (List.mem_of_getElem? (i := 17) rfl)) (hw _ (List.mem_of_getElem? (i := 5) rfl)) (by decide) (by decide)) q7a q7c (g := (mkF m 50 (LS_IIRII p0 (1 : Int32) w_JobState_QUEUED (1 : Int32) (1 : Int32)) [(.ref w_JobState_QUEUED)])) rfl (by rw [hml]; rfl) (Steps.refl _) (argsL := []) (rest := []) (lenOf pd___Z rfl) rfl (by show 2 * 0 + _ ≤ _; exact Nat.le_of_eq rfl) (hb hby at_50) (fun _ _ => ⟨rfl, e6, (by decide : 0 + 0 ≤ _), (by decide : 0 + 0 ≤ _)⟩)
    dsimp only [Pt.U, Pt.locs, Pt.cells, Pt.slots] at X7 l7 y7 z7 st7 hQ7
    subst l7 y7 z7
    obtain ⟨rfl, N7q, e7⟩ := hQ7
    have N7 := Fr.app N6 N7q
    refine own_go (B := T7.setTop (mkF m 53 (LS_IIRII p0 (1 : Int32) w_JobState_QUEUED (1 : Int32) (1 : Int32)) [(.int (0 : Int32))])) (fun t k => st7.trans k) ?_
    refine own_go (B := T7.setTop (mkF m 59 (LS_IIRII p0 (1 : Int32) w_JobState_QUEUED (1 : Int32) (1 : Int32)) [(.int (1 : Int32))])) (fun t k => ?_) ?_
    · show Steps p.tables e below (T7.setTop (mkF m 53 (LS_IIRII p0 (1 : Int32) w_JobState_QUEUED (1 : Int32) (1 : Int32)) [(.int (0 : Int32))])) _
      refine XS.ifYes X7.here hx rfl (pc0 := 53) (pc' := 58) rfl (hb hby at_53) rfl ((if0 _ _).trans (teq (by decide : (0 : Int32) = (0 : Int32))).1) (by decide) (by decide) ?_
      show Steps p.tables e below (T7.setTop (mkF m 58 (LS_IIRII p0 (1 : Int32) w_JobState_QUEUED (1 : Int32) (1 : Int32)) [])) _
      refine XS.iconst X7.here hx rfl (hb hby at_58) ?_
      exact k
    obtain ⟨fs, hr, hrun, hended, hW, hsame⟩ := X7.leave (v := some (.int (1 : Int32))) (fun h => by rw [Bd.returns] at h; cases h)
    refine ⟨_, _, ?_, hrun, hended, _, _, rfl, ?_, ⟨_, rfl⟩, hW, hsame.mono (by decide) (by decide)⟩
    · show Steps p.tables e below (T7.setTop (mkF m 59 (LS_IIRII p0 (1 : Int32) w_JobState_QUEUED (1 : Int32) (1 : Int32)) [(.int (1 : Int32))])) _
      exact retN X7 hx (t := .boolean) Bd.returns (by simp) (hb hby at_59) hr
    · show Q0 Z p0 w_JobState_SCHEDULED w_JobState_SUCCEEDED w_JobState_QUEUED w_JobState_RETRY_SCHEDULED w_JobState_EXPIRED w_JobState_CANCELLED w_JobState_LEASED w_JobState_DEAD h0 n0 _ T7.heap _
      rw [e7]
      exact ⟨rfl, N7⟩
  · rw [hk1]
    refine own_go (B := s₁.setTop (mkF m 6 (LS_IIuuu p0 (2 : Int32)) [(.int (2 : Int32))])) (fun t k => ?_) ?_
    · show Steps p.tables e below (s₁.setTop (mkF m 4 (LS_Iuuuu p0) [(.int (2 : Int32))])) _
      refine XS.istoreN X0.here hx rfl (hb hby at_4) rfl (l' := (LS_IIuuu p0 (2 : Int32))) rfl ?_
      show Steps p.tables e below (s₁.setTop (mkF m 5 (LS_IIuuu p0 (2 : Int32)) [])) _
      refine XS.iloadN X0.here hx rfl (hb hby at_5) rfl ?_
      exact k
    obtain ⟨_, _, ⟨T8, L8, k8, n8⟩, -, X8, ⟨Lc8, hQ8, l8, y8, z8⟩, st8⟩ := Jvm.LawKit.callS X0 hx (y := (⟨"com/example/weighted_scheduler/weightedscheduler/JobStateIsWaitingPinLaw", "pick", "(I)Lcom/example/weighted_scheduler/weightedscheduler/JobState;"⟩ : MethodName)) hown (mvT hZ (hw _ (List.mem_of_getElem? (i := 0) rfl))) (mvT hZ (hw _ (List.mem_of_getElem? (i := 1) rfl))) (mvT hZ (hw _ (List.mem_of_getElem? (i := 2) rfl))) (mvT hZ (hw _ (List.mem_of_getElem? (i := 3) rfl))) (by decide) (backOf (W := 0) (rm1_2 l Z a0 hw [] w_JobState_LEASED h0 n0 Z0 S_JobState_LEASED) hZ (hw _ (List.mem_of_getElem? (i := 3) rfl)) (hw _ (List.mem_of_getElem? (i := 2) rfl)) (by decide) (by decide)) (g := (mkF m 6 (LS_IIuuu p0 (2 : Int32)) [(.int (2 : Int32))])) rfl (by rw [hml]; rfl) (argsL := [(.int (2 : Int32))]) (rest := []) (lenOf pd__I_Lcom_example_weighted_scheduler_weightedscheduler_JobState_ rfl) rfl (by show 2 * 0 + _ ≤ _; exact Nat.le_of_eq rfl) (hb hby at_6) (fun _ _ => ⟨rfl, e0, (by decide : 0 + 0 ≤ _), (by decide : 0 + 0 ≤ _)⟩)
    dsimp only [Pt.U, Pt.locs, Pt.cells, Pt.slots] at X8 l8 y8 z8 st8 hQ8
    subst l8 y8 z8
    obtain ⟨rfl, N8q, e8⟩ := hQ8
    have N8 := Fr.app N0 N8q
    refine own_go (B := T8.setTop (mkF m 9 (LS_IIuuu p0 (2 : Int32)) [(.ref w_JobState_LEASED)])) (fun t k => st8 _ k) ?_
    refine own_go (B := T8.setTop (mkF m 31 (LS_IIRIu p0 (2 : Int32) w_JobState_LEASED (0 : Int32)) [(.ref w_JobState_LEASED)])) (fun t k => ?_) ?_
    · show Steps p.tables e below (T8.setTop (mkF m 9 (LS_IIuuu p0 (2 : Int32)) [(.ref w_JobState_LEASED)])) _
      refine XS.astoreN X8.here hx rfl (hb hby at_9) rfl rfl (l' := (LS_IIRuu p0 (2 : Int32) w_JobState_LEASED)) rfl ?_
      show Steps p.tables e below (T8.setTop (mkF m 10 (LS_IIRuu p0 (2 : Int32) w_JobState_LEASED) [])) _
      refine XS.iloadN X8.here hx rfl (hb hby at_10) rfl ?_
      show Steps p.tables e below (T8.setTop (mkF m 11 (LS_IIRuu p0 (2 : Int32) w_JobState_LEASED) [(.int (2 : Int32))])) _
      refine XS.ifNo X8.here hx rfl (hb hby at_11) rfl ((if0 _ _).trans (feq (by decide : ¬ ((2 : Int32) = (0 : Int32)))).1) ?_
      show Steps p.tables e below (T8.setTop (mkF m 14 (LS_IIRuu p0 (2 : Int32) w_JobState_LEASED) [])) _
      refine XS.iloadN X8.here hx rfl (hb hby at_14) rfl ?_
      show Steps p.tables e below (T8.setTop (mkF m 15 (LS_IIRuu p0 (2 : Int32) w_JobState_LEASED) [(.int (2 : Int32))])) _
      refine XS.iconst X8.here hx rfl (hb hby at_15) ?_
      show Steps p.tables e below (T8.setTop (mkF m 16 (LS_IIRuu p0 (2 : Int32) w_JobState_LEASED) [(.int (1 : Int32)), (.int (2 : Int32))])) _
      refine XS.icmpNo X8.here hx rfl (hb hby at_16) rfl (feq (by decide : ¬ ((2 : Int32) = (1 : Int32)))).1 ?_
      show Steps p.tables e below (T8.setTop (mkF m 19 (LS_IIRuu p0 (2 : Int32) w_JobState_LEASED) [])) _
      refine XS.iloadN X8.here hx rfl (hb hby at_19) rfl ?_
      show Steps p.tables e below (T8.setTop (mkF m 20 (LS_IIRuu p0 (2 : Int32) w_JobState_LEASED) [(.int (2 : Int32))])) _
      refine XS.iconst X8.here hx rfl (hb hby at_20) ?_
      show Steps p.tables e below (T8.setTop (mkF m 21 (LS_IIRuu p0 (2 : Int32) w_JobState_LEASED) [(.int (4 : Int32)), (.int (2 : Int32))])) _
      refine XS.icmpYes X8.here hx rfl (pc0 := 21) (pc' := 28) rfl (hb hby at_21) rfl (feq (by decide : ¬ ((2 : Int32) = (4 : Int32)))).2 (by decide) (by decide) ?_
      show Steps p.tables e below (T8.setTop (mkF m 28 (LS_IIRuu p0 (2 : Int32) w_JobState_LEASED) [])) _
      refine XS.iconst X8.here hx rfl (hb hby at_28) ?_
      show Steps p.tables e below (T8.setTop (mkF m 29 (LS_IIRuu p0 (2 : Int32) w_JobState_LEASED) [(.int (0 : Int32))])) _
      refine XS.istoreN X8.here hx rfl (hb hby at_29) rfl (l' := (LS_IIRIu p0 (2 : Int32) w_JobState_LEASED (0 : Int32))) rfl ?_
      show Steps p.tables e below (T8.setTop (mkF m 30 (LS_IIRIu p0 (2 : Int32) w_JobState_LEASED (0 : Int32)) [])) _
      refine XS.aloadN X8.here hx rfl (hb hby at_30) rfl rfl ?_
      exact k
    obtain ⟨cq9, kq9, q9a, q9b, q9c⟩ := isOf hZ e8 E_JobState_LEASED
    obtain ⟨_, _, ⟨T9, L9, k9, n9⟩, -, X9, ⟨Lc9, hQ9, l9, y9, z9⟩, st9⟩ := X8.virtualBack hx (y := (⟨"com/example/weighted_scheduler/weightedscheduler/JobState", "isWaiting", "()Z"⟩ : MethodName)) (z := (⟨"com/example/weighted_scheduler/weightedscheduler/JobState", "isWaiting", "()Z"⟩ : MethodName)) hown (mvT hZ (hw _ (List.mem_of_getElem? (i := 7) rfl))) (mvT hZ (hw _ (List.mem_of_getElem? (i := 8) rfl))) (notFace_of_selects (args := #[]) (mvT hZ (hw _ (List.mem_of_getElem? (i := 10) rfl)))) (mvT hZ (hw _ (List.mem_of_getElem? (i := 10) rfl))) (mvT hZ (hw _ (List.mem_of_getElem? (i := 9) rfl))) (by decide) (backOf (W := 0) (rm2 l Z a0 hw [] w_JobState_LEASED w_JobState_SCHEDULED w_JobState_QUEUED w_JobState_RETRY_SCHEDULED h0 n0 Z0 S_JobState_SCHEDULED S_JobState_QUEUED S_JobState_RETRY_SCHEDULED) hZ (hw _ (List.mem_of_getElem? (i := 11) rfl)) (hw _ (List.mem_of_getElem? (i := 5) rfl)) (by decide) (by decide)) q9a q9c (g := (mkF m 31 (LS_IIRIu p0 (2 : Int32) w_JobState_LEASED (0 : Int32)) [(.ref w_JobState_LEASED)])) rfl (by rw [hml]; rfl) (Steps.refl _) (argsL := []) (rest := []) (lenOf pd___Z rfl) rfl (by show 2 * 0 + _ ≤ _; exact Nat.le_of_eq rfl) (hb hby at_31) (fun _ _ => ⟨rfl, e8, (by decide : 0 + 0 ≤ _), (by decide : 0 + 0 ≤ _)⟩)
    dsimp only [Pt.U, Pt.locs, Pt.cells, Pt.slots] at X9 l9 y9 z9 st9 hQ9
    subst l9 y9 z9
    obtain ⟨rfl, N9q, e9⟩ := hQ9
    have N9 := Fr.app N8 N9q
    refine own_go (B := T9.setTop (mkF m 34 (LS_IIRIu p0 (2 : Int32) w_JobState_LEASED (0 : Int32)) [(.int (if w_JobState_LEASED = w_JobState_SCHEDULED then (1 : Int32) else if w_JobState_LEASED = w_JobState_QUEUED then (1 : Int32) else if w_JobState_LEASED = w_JobState_RETRY_SCHEDULED then (1 : Int32) else (0 : Int32)))])) (fun t k => st9.trans k) ?_
    rw [show (if w_JobState_LEASED = w_JobState_SCHEDULED then (1 : Int32) else if w_JobState_LEASED = w_JobState_QUEUED then (1 : Int32) else if w_JobState_LEASED = w_JobState_RETRY_SCHEDULED then (1 : Int32) else (0 : Int32)) = (0 : Int32) from by rw [if_neg (Fld.ne F_JobState_LEASED_ordinal F_JobState_SCHEDULED_ordinal (by decide)), if_neg (Fld.ne F_JobState_LEASED_ordinal F_JobState_QUEUED_ordinal (by decide)), if_neg (Fld.ne F_JobState_LEASED_ordinal F_JobState_RETRY_SCHEDULED_ordinal (by decide))]]
    refine own_go (B := T9.setTop (mkF m 59 (LS_IIRII p0 (2 : Int32) w_JobState_LEASED (0 : Int32) (0 : Int32)) [(.int (1 : Int32))])) (fun t k => ?_) ?_
    · show Steps p.tables e below (T9.setTop (mkF m 34 (LS_IIRIu p0 (2 : Int32) w_JobState_LEASED (0 : Int32)) [(.int (0 : Int32))])) _
      refine XS.istore X9.here hx rfl (hb hby at_34) rfl (l' := (LS_IIRII p0 (2 : Int32) w_JobState_LEASED (0 : Int32) (0 : Int32))) rfl ?_
      show Steps p.tables e below (T9.setTop (mkF m 36 (LS_IIRII p0 (2 : Int32) w_JobState_LEASED (0 : Int32) (0 : Int32)) [])) _
      refine XS.iload X9.here hx rfl (hb hby at_36) rfl ?_
      show Steps p.tables e below (T9.setTop (mkF m 38 (LS_IIRII p0 (2 : Int32) w_JobState_LEASED (0 : Int32) (0 : Int32)) [(.int (0 : Int32))])) _
      refine XS.iloadN X9.here hx rfl (hb hby at_38) rfl ?_
      show Steps p.tables e below (T9.setTop (mkF m 39 (LS_IIRII p0 (2 : Int32) w_JobState_LEASED (0 : Int32) (0 : Int32)) [(.int (0 : Int32)), (.int (0 : Int32))])) _
      refine XS.icmpYes X9.here hx rfl (pc0 := 39) (pc' := 44) rfl (hb hby at_39) rfl (teq (by decide : (0 : Int32) = (0 : Int32))).1 (by decide) (by decide) ?_
      show Steps p.tables e below (T9.setTop (mkF m 44 (LS_IIRII p0 (2 : Int32) w_JobState_LEASED (0 : Int32) (0 : Int32)) [])) _
      refine XS.iload X9.here hx rfl (hb hby at_44) rfl ?_
      show Steps p.tables e below (T9.setTop (mkF m 46 (LS_IIRII p0 (2 : Int32) w_JobState_LEASED (0 : Int32) (0 : Int32)) [(.int (0 : Int32))])) _
      refine XS.ifYes X9.here hx rfl (pc0 := 46) (pc' := 58) rfl (hb hby at_46) rfl ((if0 _ _).trans (teq (by decide : (0 : Int32) = (0 : Int32))).1) (by decide) (by decide) ?_
      show Steps p.tables e below (T9.setTop (mkF m 58 (LS_IIRII p0 (2 : Int32) w_JobState_LEASED (0 : Int32) (0 : Int32)) [])) _
      refine XS.iconst X9.here hx rfl (hb hby at_58) ?_
      exact k
    obtain ⟨fs, hr, hrun, hended, hW, hsame⟩ := X9.leave (v := some (.int (1 : Int32))) (fun h => by rw [Bd.returns] at h; cases h)
    refine ⟨_, _, ?_, hrun, hended, _, _, rfl, ?_, ⟨_, rfl⟩, hW, hsame.mono (by decide) (by decide)⟩
    · show Steps p.tables e below (T9.setTop (mkF m 59 (LS_IIRII p0 (2 : Int32) w_JobState_LEASED (0 : Int32) (0 : Int32)) [(.int (1 : Int32))])) _
      exact retN X9 hx (t := .boolean) Bd.returns (by simp) (hb hby at_59) hr
    · show Q0 Z p0 w_JobState_SCHEDULED w_JobState_SUCCEEDED w_JobState_QUEUED w_JobState_RETRY_SCHEDULED w_JobState_EXPIRED w_JobState_CANCELLED w_JobState_LEASED w_JobState_DEAD h0 n0 _ T9.heap _
      rw [e9]
      exact ⟨rfl, N9⟩
  · rw [hk1]
    refine own_go (B := s₁.setTop (mkF m 6 (LS_IIuuu p0 (3 : Int32)) [(.int (3 : Int32))])) (fun t k => ?_) ?_
    · show Steps p.tables e below (s₁.setTop (mkF m 4 (LS_Iuuuu p0) [(.int (3 : Int32))])) _
      refine XS.istoreN X0.here hx rfl (hb hby at_4) rfl (l' := (LS_IIuuu p0 (3 : Int32))) rfl ?_
      show Steps p.tables e below (s₁.setTop (mkF m 5 (LS_IIuuu p0 (3 : Int32)) [])) _
      refine XS.iloadN X0.here hx rfl (hb hby at_5) rfl ?_
      exact k
    obtain ⟨_, _, ⟨T10, L10, k10, n10⟩, -, X10, ⟨Lc10, hQ10, l10, y10, z10⟩, st10⟩ := Jvm.LawKit.callS X0 hx (y := (⟨"com/example/weighted_scheduler/weightedscheduler/JobStateIsWaitingPinLaw", "pick", "(I)Lcom/example/weighted_scheduler/weightedscheduler/JobState;"⟩ : MethodName)) hown (mvT hZ (hw _ (List.mem_of_getElem? (i := 0) rfl))) (mvT hZ (hw _ (List.mem_of_getElem? (i := 1) rfl))) (mvT hZ (hw _ (List.mem_of_getElem? (i := 2) rfl))) (mvT hZ (hw _ (List.mem_of_getElem? (i := 3) rfl))) (by decide) (backOf (W := 0) (rm1_3 l Z a0 hw [] w_JobState_SUCCEEDED h0 n0 Z0 S_JobState_SUCCEEDED) hZ (hw _ (List.mem_of_getElem? (i := 3) rfl)) (hw _ (List.mem_of_getElem? (i := 2) rfl)) (by decide) (by decide)) (g := (mkF m 6 (LS_IIuuu p0 (3 : Int32)) [(.int (3 : Int32))])) rfl (by rw [hml]; rfl) (argsL := [(.int (3 : Int32))]) (rest := []) (lenOf pd__I_Lcom_example_weighted_scheduler_weightedscheduler_JobState_ rfl) rfl (by show 2 * 0 + _ ≤ _; exact Nat.le_of_eq rfl) (hb hby at_6) (fun _ _ => ⟨rfl, e0, (by decide : 0 + 0 ≤ _), (by decide : 0 + 0 ≤ _)⟩)
    dsimp only [Pt.U, Pt.locs, Pt.cells, Pt.slots] at X10 l10 y10 z10 st10 hQ10
    subst l10 y10 z10
    obtain ⟨rfl, N10q, e10⟩ := hQ10
    have N10 := Fr.app N0 N10q
    refine own_go (B := T10.setTop (mkF m 9 (LS_IIuuu p0 (3 : Int32)) [(.ref w_JobState_SUCCEEDED)])) (fun t k => st10 _ k) ?_
    refine own_go (B := T10.setTop (mkF m 31 (LS_IIRIu p0 (3 : Int32) w_JobState_SUCCEEDED (0 : Int32)) [(.ref w_JobState_SUCCEEDED)])) (fun t k => ?_) ?_
    · show Steps p.tables e below (T10.setTop (mkF m 9 (LS_IIuuu p0 (3 : Int32)) [(.ref w_JobState_SUCCEEDED)])) _
      refine XS.astoreN X10.here hx rfl (hb hby at_9) rfl rfl (l' := (LS_IIRuu p0 (3 : Int32) w_JobState_SUCCEEDED)) rfl ?_
      show Steps p.tables e below (T10.setTop (mkF m 10 (LS_IIRuu p0 (3 : Int32) w_JobState_SUCCEEDED) [])) _
      refine XS.iloadN X10.here hx rfl (hb hby at_10) rfl ?_
      show Steps p.tables e below (T10.setTop (mkF m 11 (LS_IIRuu p0 (3 : Int32) w_JobState_SUCCEEDED) [(.int (3 : Int32))])) _
      refine XS.ifNo X10.here hx rfl (hb hby at_11) rfl ((if0 _ _).trans (feq (by decide : ¬ ((3 : Int32) = (0 : Int32)))).1) ?_
      show Steps p.tables e below (T10.setTop (mkF m 14 (LS_IIRuu p0 (3 : Int32) w_JobState_SUCCEEDED) [])) _
      refine XS.iloadN X10.here hx rfl (hb hby at_14) rfl ?_
      show Steps p.tables e below (T10.setTop (mkF m 15 (LS_IIRuu p0 (3 : Int32) w_JobState_SUCCEEDED) [(.int (3 : Int32))])) _
      refine XS.iconst X10.here hx rfl (hb hby at_15) ?_
      show Steps p.tables e below (T10.setTop (mkF m 16 (LS_IIRuu p0 (3 : Int32) w_JobState_SUCCEEDED) [(.int (1 : Int32)), (.int (3 : Int32))])) _
      refine XS.icmpNo X10.here hx rfl (hb hby at_16) rfl (feq (by decide : ¬ ((3 : Int32) = (1 : Int32)))).1 ?_
      show Steps p.tables e below (T10.setTop (mkF m 19 (LS_IIRuu p0 (3 : Int32) w_JobState_SUCCEEDED) [])) _
      refine XS.iloadN X10.here hx rfl (hb hby at_19) rfl ?_
      show Steps p.tables e below (T10.setTop (mkF m 20 (LS_IIRuu p0 (3 : Int32) w_JobState_SUCCEEDED) [(.int (3 : Int32))])) _
      refine XS.iconst X10.here hx rfl (hb hby at_20) ?_
      show Steps p.tables e below (T10.setTop (mkF m 21 (LS_IIRuu p0 (3 : Int32) w_JobState_SUCCEEDED) [(.int (4 : Int32)), (.int (3 : Int32))])) _
      refine XS.icmpYes X10.here hx rfl (pc0 := 21) (pc' := 28) rfl (hb hby at_21) rfl (feq (by decide : ¬ ((3 : Int32) = (4 : Int32)))).2 (by decide) (by decide) ?_
      show Steps p.tables e below (T10.setTop (mkF m 28 (LS_IIRuu p0 (3 : Int32) w_JobState_SUCCEEDED) [])) _
      refine XS.iconst X10.here hx rfl (hb hby at_28) ?_
      show Steps p.tables e below (T10.setTop (mkF m 29 (LS_IIRuu p0 (3 : Int32) w_JobState_SUCCEEDED) [(.int (0 : Int32))])) _
      refine XS.istoreN X10.here hx rfl (hb hby at_29) rfl (l' := (LS_IIRIu p0 (3 : Int32) w_JobState_SUCCEEDED (0 : Int32))) rfl ?_
      show Steps p.tables e below (T10.setTop (mkF m 30 (LS_IIRIu p0 (3 : Int32) w_JobState_SUCCEEDED (0 : Int32)) [])) _
      refine XS.aloadN X10.here hx rfl (hb hby at_30) rfl rfl ?_
      exact k
    obtain ⟨cq11, kq11, q11a, q11b, q11c⟩ := isOf hZ e10 E_JobState_SUCCEEDED
    obtain ⟨_, _, ⟨T11, L11, k11, n11⟩, -, X11, ⟨Lc11, hQ11, l11, y11, z11⟩, st11⟩ := X10.virtualBack hx (y := (⟨"com/example/weighted_scheduler/weightedscheduler/JobState", "isWaiting", "()Z"⟩ : MethodName)) (z := (⟨"com/example/weighted_scheduler/weightedscheduler/JobState", "isWaiting", "()Z"⟩ : MethodName)) hown (mvT hZ (hw _ (List.mem_of_getElem? (i := 7) rfl))) (mvT hZ (hw _ (List.mem_of_getElem? (i := 8) rfl))) (notFace_of_selects (args := #[]) (mvT hZ (hw _ (List.mem_of_getElem? (i := 10) rfl)))) (mvT hZ (hw _ (List.mem_of_getElem? (i := 10) rfl))) (mvT hZ (hw _ (List.mem_of_getElem? (i := 9) rfl))) (by decide) (backOf (W := 0) (rm2 l Z a0 hw [] w_JobState_SUCCEEDED w_JobState_SCHEDULED w_JobState_QUEUED w_JobState_RETRY_SCHEDULED h0 n0 Z0 S_JobState_SCHEDULED S_JobState_QUEUED S_JobState_RETRY_SCHEDULED) hZ (hw _ (List.mem_of_getElem? (i := 11) rfl)) (hw _ (List.mem_of_getElem? (i := 5) rfl)) (by decide) (by decide)) q11a q11c (g := (mkF m 31 (LS_IIRIu p0 (3 : Int32) w_JobState_SUCCEEDED (0 : Int32)) [(.ref w_JobState_SUCCEEDED)])) rfl (by rw [hml]; rfl) (Steps.refl _) (argsL := []) (rest := []) (lenOf pd___Z rfl) rfl (by show 2 * 0 + _ ≤ _; exact Nat.le_of_eq rfl) (hb hby at_31) (fun _ _ => ⟨rfl, e10, (by decide : 0 + 0 ≤ _), (by decide : 0 + 0 ≤ _)⟩)
    dsimp only [Pt.U, Pt.locs, Pt.cells, Pt.slots] at X11 l11 y11 z11 st11 hQ11
    subst l11 y11 z11
    obtain ⟨rfl, N11q, e11⟩ := hQ11
    have N11 := Fr.app N10 N11q
    refine own_go (B := T11.setTop (mkF m 34 (LS_IIRIu p0 (3 : Int32) w_JobState_SUCCEEDED (0 : Int32)) [(.int (if w_JobState_SUCCEEDED = w_JobState_SCHEDULED then (1 : Int32) else if w_JobState_SUCCEEDED = w_JobState_QUEUED then (1 : Int32) else if w_JobState_SUCCEEDED = w_JobState_RETRY_SCHEDULED then (1 : Int32) else (0 : Int32)))])) (fun t k => st11.trans k) ?_
    rw [show (if w_JobState_SUCCEEDED = w_JobState_SCHEDULED then (1 : Int32) else if w_JobState_SUCCEEDED = w_JobState_QUEUED then (1 : Int32) else if w_JobState_SUCCEEDED = w_JobState_RETRY_SCHEDULED then (1 : Int32) else (0 : Int32)) = (0 : Int32) from by rw [if_neg (Fld.ne F_JobState_SUCCEEDED_ordinal F_JobState_SCHEDULED_ordinal (by decide)), if_neg (Fld.ne F_JobState_SUCCEEDED_ordinal F_JobState_QUEUED_ordinal (by decide)), if_neg (Fld.ne F_JobState_SUCCEEDED_ordinal F_JobState_RETRY_SCHEDULED_ordinal (by decide))]]
    refine own_go (B := T11.setTop (mkF m 59 (LS_IIRII p0 (3 : Int32) w_JobState_SUCCEEDED (0 : Int32) (0 : Int32)) [(.int (1 : Int32))])) (fun t k => ?_) ?_
    · show Steps p.tables e below (T11.setTop (mkF m 34 (LS_IIRIu p0 (3 : Int32) w_JobState_SUCCEEDED (0 : Int32)) [(.int (0 : Int32))])) _
      refine XS.istore X11.here hx rfl (hb hby at_34) rfl (l' := (LS_IIRII p0 (3 : Int32) w_JobState_SUCCEEDED (0 : Int32) (0 : Int32))) rfl ?_
      show Steps p.tables e below (T11.setTop (mkF m 36 (LS_IIRII p0 (3 : Int32) w_JobState_SUCCEEDED (0 : Int32) (0 : Int32)) [])) _
      refine XS.iload X11.here hx rfl (hb hby at_36) rfl ?_
      show Steps p.tables e below (T11.setTop (mkF m 38 (LS_IIRII p0 (3 : Int32) w_JobState_SUCCEEDED (0 : Int32) (0 : Int32)) [(.int (0 : Int32))])) _
      refine XS.iloadN X11.here hx rfl (hb hby at_38) rfl ?_
      show Steps p.tables e below (T11.setTop (mkF m 39 (LS_IIRII p0 (3 : Int32) w_JobState_SUCCEEDED (0 : Int32) (0 : Int32)) [(.int (0 : Int32)), (.int (0 : Int32))])) _
      refine XS.icmpYes X11.here hx rfl (pc0 := 39) (pc' := 44) rfl (hb hby at_39) rfl (teq (by decide : (0 : Int32) = (0 : Int32))).1 (by decide) (by decide) ?_
      show Steps p.tables e below (T11.setTop (mkF m 44 (LS_IIRII p0 (3 : Int32) w_JobState_SUCCEEDED (0 : Int32) (0 : Int32)) [])) _
      refine XS.iload X11.here hx rfl (hb hby at_44) rfl ?_
      show Steps p.tables e below (T11.setTop (mkF m 46 (LS_IIRII p0 (3 : Int32) w_JobState_SUCCEEDED (0 : Int32) (0 : Int32)) [(.int (0 : Int32))])) _
      refine XS.ifYes X11.here hx rfl (pc0 := 46) (pc' := 58) rfl (hb hby at_46) rfl ((if0 _ _).trans (teq (by decide : (0 : Int32) = (0 : Int32))).1) (by decide) (by decide) ?_
      show Steps p.tables e below (T11.setTop (mkF m 58 (LS_IIRII p0 (3 : Int32) w_JobState_SUCCEEDED (0 : Int32) (0 : Int32)) [])) _
      refine XS.iconst X11.here hx rfl (hb hby at_58) ?_
      exact k
    obtain ⟨fs, hr, hrun, hended, hW, hsame⟩ := X11.leave (v := some (.int (1 : Int32))) (fun h => by rw [Bd.returns] at h; cases h)
    refine ⟨_, _, ?_, hrun, hended, _, _, rfl, ?_, ⟨_, rfl⟩, hW, hsame.mono (by decide) (by decide)⟩
    · show Steps p.tables e below (T11.setTop (mkF m 59 (LS_IIRII p0 (3 : Int32) w_JobState_SUCCEEDED (0 : Int32) (0 : Int32)) [(.int (1 : Int32))])) _
      exact retN X11 hx (t := .boolean) Bd.returns (by simp) (hb hby at_59) hr
    · show Q0 Z p0 w_JobState_SCHEDULED w_JobState_SUCCEEDED w_JobState_QUEUED w_JobState_RETRY_SCHEDULED w_JobState_EXPIRED w_JobState_CANCELLED w_JobState_LEASED w_JobState_DEAD h0 n0 _ T11.heap _
      rw [e11]
      exact ⟨rfl, N11⟩
  · rw [hk1]
    refine own_go (B := s₁.setTop (mkF m 6 (LS_IIuuu p0 (4 : Int32)) [(.int (4 : Int32))])) (fun t k => ?_) ?_
    · show Steps p.tables e below (s₁.setTop (mkF m 4 (LS_Iuuuu p0) [(.int (4 : Int32))])) _
      refine XS.istoreN X0.here hx rfl (hb hby at_4) rfl (l' := (LS_IIuuu p0 (4 : Int32))) rfl ?_
      show Steps p.tables e below (s₁.setTop (mkF m 5 (LS_IIuuu p0 (4 : Int32)) [])) _
      refine XS.iloadN X0.here hx rfl (hb hby at_5) rfl ?_
      exact k
    obtain ⟨_, _, ⟨T12, L12, k12, n12⟩, -, X12, ⟨Lc12, hQ12, l12, y12, z12⟩, st12⟩ := Jvm.LawKit.callS X0 hx (y := (⟨"com/example/weighted_scheduler/weightedscheduler/JobStateIsWaitingPinLaw", "pick", "(I)Lcom/example/weighted_scheduler/weightedscheduler/JobState;"⟩ : MethodName)) hown (mvT hZ (hw _ (List.mem_of_getElem? (i := 0) rfl))) (mvT hZ (hw _ (List.mem_of_getElem? (i := 1) rfl))) (mvT hZ (hw _ (List.mem_of_getElem? (i := 2) rfl))) (mvT hZ (hw _ (List.mem_of_getElem? (i := 3) rfl))) (by decide) (backOf (W := 0) (rm1_4 l Z a0 hw [] w_JobState_RETRY_SCHEDULED h0 n0 Z0 S_JobState_RETRY_SCHEDULED) hZ (hw _ (List.mem_of_getElem? (i := 3) rfl)) (hw _ (List.mem_of_getElem? (i := 2) rfl)) (by decide) (by decide)) (g := (mkF m 6 (LS_IIuuu p0 (4 : Int32)) [(.int (4 : Int32))])) rfl (by rw [hml]; rfl) (argsL := [(.int (4 : Int32))]) (rest := []) (lenOf pd__I_Lcom_example_weighted_scheduler_weightedscheduler_JobState_ rfl) rfl (by show 2 * 0 + _ ≤ _; exact Nat.le_of_eq rfl) (hb hby at_6) (fun _ _ => ⟨rfl, e0, (by decide : 0 + 0 ≤ _), (by decide : 0 + 0 ≤ _)⟩)
    dsimp only [Pt.U, Pt.locs, Pt.cells, Pt.slots] at X12 l12 y12 z12 st12 hQ12
    subst l12 y12 z12
    obtain ⟨rfl, N12q, e12⟩ := hQ12
    have N12 := Fr.app N0 N12q
    refine own_go (B := T12.setTop (mkF m 9 (LS_IIuuu p0 (4 : Int32)) [(.ref w_JobState_RETRY_SCHEDULED)])) (fun t k => st12 _ k) ?_
    refine own_go (B := T12.setTop (mkF m 31 (LS_IIRIu p0 (4 : Int32) w_JobState_RETRY_SCHEDULED (1 : Int32)) [(.ref w_JobState_RETRY_SCHEDULED)])) (fun t k => ?_) ?_
    · show Steps p.tables e below (T12.setTop (mkF m 9 (LS_IIuuu p0 (4 : Int32)) [(.ref w_JobState_RETRY_SCHEDULED)])) _
      refine XS.astoreN X12.here hx rfl (hb hby at_9) rfl rfl (l' := (LS_IIRuu p0 (4 : Int32) w_JobState_RETRY_SCHEDULED)) rfl ?_
      show Steps p.tables e below (T12.setTop (mkF m 10 (LS_IIRuu p0 (4 : Int32) w_JobState_RETRY_SCHEDULED) [])) _
      refine XS.iloadN X12.here hx rfl (hb hby at_10) rfl ?_
      show Steps p.tables e below (T12.setTop (mkF m 11 (LS_IIRuu p0 (4 : Int32) w_JobState_RETRY_SCHEDULED) [(.int (4 : Int32))])) _
      refine XS.ifNo X12.here hx rfl (hb hby at_11) rfl ((if0 _ _).trans (feq (by decide : ¬ ((4 : Int32) = (0 : Int32)))).1) ?_
      show Steps p.tables e below (T12.setTop (mkF m 14 (LS_IIRuu p0 (4 : Int32) w_JobState_RETRY_SCHEDULED) [])) _
      refine XS.iloadN X12.here hx rfl (hb hby at_14) rfl ?_
      show Steps p.tables e below (T12.setTop (mkF m 15 (LS_IIRuu p0 (4 : Int32) w_JobState_RETRY_SCHEDULED) [(.int (4 : Int32))])) _
      refine XS.iconst X12.here hx rfl (hb hby at_15) ?_
      show Steps p.tables e below (T12.setTop (mkF m 16 (LS_IIRuu p0 (4 : Int32) w_JobState_RETRY_SCHEDULED) [(.int (1 : Int32)), (.int (4 : Int32))])) _
      refine XS.icmpNo X12.here hx rfl (hb hby at_16) rfl (feq (by decide : ¬ ((4 : Int32) = (1 : Int32)))).1 ?_
      show Steps p.tables e below (T12.setTop (mkF m 19 (LS_IIRuu p0 (4 : Int32) w_JobState_RETRY_SCHEDULED) [])) _
      refine XS.iloadN X12.here hx rfl (hb hby at_19) rfl ?_
      show Steps p.tables e below (T12.setTop (mkF m 20 (LS_IIRuu p0 (4 : Int32) w_JobState_RETRY_SCHEDULED) [(.int (4 : Int32))])) _
      refine XS.iconst X12.here hx rfl (hb hby at_20) ?_
      show Steps p.tables e below (T12.setTop (mkF m 21 (LS_IIRuu p0 (4 : Int32) w_JobState_RETRY_SCHEDULED) [(.int (4 : Int32)), (.int (4 : Int32))])) _
      refine XS.icmpNo X12.here hx rfl (hb hby at_21) rfl (teq (by decide : (4 : Int32) = (4 : Int32))).2 ?_
      show Steps p.tables e below (T12.setTop (mkF m 24 (LS_IIRuu p0 (4 : Int32) w_JobState_RETRY_SCHEDULED) [])) _
      refine XS.iconst X12.here hx rfl (hb hby at_24) ?_
      show Steps p.tables e below (T12.setTop (mkF m 25 (LS_IIRuu p0 (4 : Int32) w_JobState_RETRY_SCHEDULED) [(.int (1 : Int32))])) _
      refine XS.goto X12.here hx rfl (pc0 := 25) (pc' := 29) rfl (hb hby at_25) (by decide) (by decide) ?_
      show Steps p.tables e below (T12.setTop (mkF m 29 (LS_IIRuu p0 (4 : Int32) w_JobState_RETRY_SCHEDULED) [(.int (1 : Int32))])) _
      refine XS.istoreN X12.here hx rfl (hb hby at_29) rfl (l' := (LS_IIRIu p0 (4 : Int32) w_JobState_RETRY_SCHEDULED (1 : Int32))) rfl ?_
      show Steps p.tables e below (T12.setTop (mkF m 30 (LS_IIRIu p0 (4 : Int32) w_JobState_RETRY_SCHEDULED (1 : Int32)) [])) _
      refine XS.aloadN X12.here hx rfl (hb hby at_30) rfl rfl ?_
      exact k
    obtain ⟨cq13, kq13, q13a, q13b, q13c⟩ := isOf hZ e12 E_JobState_RETRY_SCHEDULED
    obtain ⟨_, _, ⟨T13, L13, k13, n13⟩, -, X13, ⟨Lc13, hQ13, l13, y13, z13⟩, st13⟩ := X12.virtualBack hx (y := (⟨"com/example/weighted_scheduler/weightedscheduler/JobState", "isWaiting", "()Z"⟩ : MethodName)) (z := (⟨"com/example/weighted_scheduler/weightedscheduler/JobState", "isWaiting", "()Z"⟩ : MethodName)) hown (mvT hZ (hw _ (List.mem_of_getElem? (i := 7) rfl))) (mvT hZ (hw _ (List.mem_of_getElem? (i := 8) rfl))) (notFace_of_selects (args := #[]) (mvT hZ (hw _ (List.mem_of_getElem? (i := 10) rfl)))) (mvT hZ (hw _ (List.mem_of_getElem? (i := 10) rfl))) (mvT hZ (hw _ (List.mem_of_getElem? (i := 9) rfl))) (by decide) (backOf (W := 0) (rm2 l Z a0 hw [] w_JobState_RETRY_SCHEDULED w_JobState_SCHEDULED w_JobState_QUEUED w_JobState_RETRY_SCHEDULED h0 n0 Z0 S_JobState_SCHEDULED S_JobState_QUEUED S_JobState_RETRY_SCHEDULED) hZ (hw _ (List.mem_of_getElem? (i := 11) rfl)) (hw _ (List.mem_of_getElem? (i := 5) rfl)) (by decide) (by decide)) q13a q13c (g := (mkF m 31 (LS_IIRIu p0 (4 : Int32) w_JobState_RETRY_SCHEDULED (1 : Int32)) [(.ref w_JobState_RETRY_SCHEDULED)])) rfl (by rw [hml]; rfl) (Steps.refl _) (argsL := []) (rest := []) (lenOf pd___Z rfl) rfl (by show 2 * 0 + _ ≤ _; exact Nat.le_of_eq rfl) (hb hby at_31) (fun _ _ => ⟨rfl, e12, (by decide : 0 + 0 ≤ _), (by decide : 0 + 0 ≤ _)⟩)
    dsimp only [Pt.U, Pt.locs, Pt.cells, Pt.slots] at X13 l13 y13 z13 st13 hQ13
    subst l13 y13 z13
    obtain ⟨rfl, N13q, e13⟩ := hQ13
    have N13 := Fr.app N12 N13q
    refine own_go (B := T13.setTop (mkF m 34 (LS_IIRIu p0 (4 : Int32) w_JobState_RETRY_SCHEDULED (1 : Int32)) [(.int (if w_JobState_RETRY_SCHEDULED = w_JobState_SCHEDULED then (1 : Int32) else if w_JobState_RETRY_SCHEDULED = w_JobState_QUEUED then (1 : Int32) else if w_JobState_RETRY_SCHEDULED = w_JobState_RETRY_SCHEDULED then (1 : Int32) else (0 : Int32)))])) (fun t k => st13.trans k) ?_
    rw [show (if w_JobState_RETRY_SCHEDULED = w_JobState_SCHEDULED then (1 : Int32) else if w_JobState_RETRY_SCHEDULED = w_JobState_QUEUED then (1 : Int32) else if w_JobState_RETRY_SCHEDULED = w_JobState_RETRY_SCHEDULED then (1 : Int32) else (0 : Int32)) = (1 : Int32) from by rw [if_neg (Fld.ne F_JobState_RETRY_SCHEDULED_ordinal F_JobState_SCHEDULED_ordinal (by decide)), if_neg (Fld.ne F_JobState_RETRY_SCHEDULED_ordinal F_JobState_QUEUED_ordinal (by decide)), if_pos rfl]]
    refine own_go (B := T13.setTop (mkF m 50 (LS_IIRII p0 (4 : Int32) w_JobState_RETRY_SCHEDULED (1 : Int32) (1 : Int32)) [(.ref w_JobState_RETRY_SCHEDULED)])) (fun t k => ?_) ?_
    · show Steps p.tables e below (T13.setTop (mkF m 34 (LS_IIRIu p0 (4 : Int32) w_JobState_RETRY_SCHEDULED (1 : Int32)) [(.int (1 : Int32))])) _
      refine XS.istore X13.here hx rfl (hb hby at_34) rfl (l' := (LS_IIRII p0 (4 : Int32) w_JobState_RETRY_SCHEDULED (1 : Int32) (1 : Int32))) rfl ?_
      show Steps p.tables e below (T13.setTop (mkF m 36 (LS_IIRII p0 (4 : Int32) w_JobState_RETRY_SCHEDULED (1 : Int32) (1 : Int32)) [])) _
      refine XS.iload X13.here hx rfl (hb hby at_36) rfl ?_
      show Steps p.tables e below (T13.setTop (mkF m 38 (LS_IIRII p0 (4 : Int32) w_JobState_RETRY_SCHEDULED (1 : Int32) (1 : Int32)) [(.int (1 : Int32))])) _
      refine XS.iloadN X13.here hx rfl (hb hby at_38) rfl ?_
      show Steps p.tables e below (T13.setTop (mkF m 39 (LS_IIRII p0 (4 : Int32) w_JobState_RETRY_SCHEDULED (1 : Int32) (1 : Int32)) [(.int (1 : Int32)), (.int (1 : Int32))])) _
      refine XS.icmpYes X13.here hx rfl (pc0 := 39) (pc' := 44) rfl (hb hby at_39) rfl (teq (by decide : (1 : Int32) = (1 : Int32))).1 (by decide) (by decide) ?_
      show Steps p.tables e below (T13.setTop (mkF m 44 (LS_IIRII p0 (4 : Int32) w_JobState_RETRY_SCHEDULED (1 : Int32) (1 : Int32)) [])) _
      refine XS.iload X13.here hx rfl (hb hby at_44) rfl ?_
      show Steps p.tables e below (T13.setTop (mkF m 46 (LS_IIRII p0 (4 : Int32) w_JobState_RETRY_SCHEDULED (1 : Int32) (1 : Int32)) [(.int (1 : Int32))])) _
      refine XS.ifNo X13.here hx rfl (hb hby at_46) rfl ((if0 _ _).trans (feq (by decide : ¬ ((1 : Int32) = (0 : Int32)))).1) ?_
      show Steps p.tables e below (T13.setTop (mkF m 49 (LS_IIRII p0 (4 : Int32) w_JobState_RETRY_SCHEDULED (1 : Int32) (1 : Int32)) [])) _
      refine XS.aloadN X13.here hx rfl (hb hby at_49) rfl rfl ?_
      exact k
    obtain ⟨cq14, kq14, q14a, q14b, q14c⟩ := isOf hZ e13 E_JobState_RETRY_SCHEDULED
    obtain ⟨_, _, ⟨T14, L14, k14, n14⟩, -, X14, ⟨Lc14, hQ14, l14, y14, z14⟩, st14⟩ := X13.virtualBack hx (y := (⟨"com/example/weighted_scheduler/weightedscheduler/JobState", "isFinal", "()Z"⟩ : MethodName)) (z := (⟨"com/example/weighted_scheduler/weightedscheduler/JobState", "isFinal", "()Z"⟩ : MethodName)) hown (mvT hZ (hw _ (List.mem_of_getElem? (i := 13) rfl))) (mvT hZ (hw _ (List.mem_of_getElem? (i := 14) rfl))) (notFace_of_selects (args := #[]) (mvT hZ (hw _ (List.mem_of_getElem? (i := 16) rfl)))) (mvT hZ (hw _ (List.mem_of_getElem? (i := 16) rfl))) (mvT hZ (hw _ (List.mem_of_getElem? (i := 15) rfl))) (by decide) (backOf (W := 0) (rm3 l Z a0 hw [] w_JobState_RETRY_SCHEDULED (0 : Int32) h0 n0 Z0 F_JobState_RETRY_SCHEDULED_isFinal (by decide)) hZ (hw _ (List.mem_of_getElem? (i := 17) rfl)) (hw _ (List.mem_of_getElem? (i := 5) rfl)) (by decide) (by decide)) q14a q14c (g := (mkF m 50 (LS_IIRII p0 (4 : Int32) w_JobState_RETRY_SCHEDULED (1 : Int32) (1 : Int32)) [(.ref w_JobState_RETRY_SCHEDULED)])) rfl (by rw [hml]; rfl) (Steps.refl _) (argsL := []) (rest := []) (lenOf pd___Z rfl) rfl (by show 2 * 0 + _ ≤ _; exact Nat.le_of_eq rfl) (hb hby at_50) (fun _ _ => ⟨rfl, e13, (by decide : 0 + 0 ≤ _), (by decide : 0 + 0 ≤ _)⟩)
    dsimp only [Pt.U, Pt.locs, Pt.cells, Pt.slots] at X14 l14 y14 z14 st14 hQ14
    subst l14 y14 z14
    obtain ⟨rfl, N14q, e14⟩ := hQ14
    have N14 := Fr.app N13 N14q
    refine own_go (B := T14.setTop (mkF m 53 (LS_IIRII p0 (4 : Int32) w_JobState_RETRY_SCHEDULED (1 : Int32) (1 : Int32)) [(.int (0 : Int32))])) (fun t k => st14.trans k) ?_
    refine own_go (B := T14.setTop (mkF m 59 (LS_IIRII p0 (4 : Int32) w_JobState_RETRY_SCHEDULED (1 : Int32) (1 : Int32)) [(.int (1 : Int32))])) (fun t k => ?_) ?_
    · show Steps p.tables e below (T14.setTop (mkF m 53 (LS_IIRII p0 (4 : Int32) w_JobState_RETRY_SCHEDULED (1 : Int32) (1 : Int32)) [(.int (0 : Int32))])) _
      refine XS.ifYes X14.here hx rfl (pc0 := 53) (pc' := 58) rfl (hb hby at_53) rfl ((if0 _ _).trans (teq (by decide : (0 : Int32) = (0 : Int32))).1) (by decide) (by decide) ?_
      show Steps p.tables e below (T14.setTop (mkF m 58 (LS_IIRII p0 (4 : Int32) w_JobState_RETRY_SCHEDULED (1 : Int32) (1 : Int32)) [])) _
      refine XS.iconst X14.here hx rfl (hb hby at_58) ?_
      exact k
    obtain ⟨fs, hr, hrun, hended, hW, hsame⟩ := X14.leave (v := some (.int (1 : Int32))) (fun h => by rw [Bd.returns] at h; cases h)
    refine ⟨_, _, ?_, hrun, hended, _, _, rfl, ?_, ⟨_, rfl⟩, hW, hsame.mono (by decide) (by decide)⟩
    · show Steps p.tables e below (T14.setTop (mkF m 59 (LS_IIRII p0 (4 : Int32) w_JobState_RETRY_SCHEDULED (1 : Int32) (1 : Int32)) [(.int (1 : Int32))])) _
      exact retN X14 hx (t := .boolean) Bd.returns (by simp) (hb hby at_59) hr
    · show Q0 Z p0 w_JobState_SCHEDULED w_JobState_SUCCEEDED w_JobState_QUEUED w_JobState_RETRY_SCHEDULED w_JobState_EXPIRED w_JobState_CANCELLED w_JobState_LEASED w_JobState_DEAD h0 n0 _ T14.heap _
      rw [e14]
      exact ⟨rfl, N14⟩
  · rw [hk1]
    refine own_go (B := s₁.setTop (mkF m 6 (LS_IIuuu p0 (5 : Int32)) [(.int (5 : Int32))])) (fun t k => ?_) ?_
    · show Steps p.tables e below (s₁.setTop (mkF m 4 (LS_Iuuuu p0) [(.int (5 : Int32))])) _
      refine XS.istoreN X0.here hx rfl (hb hby at_4) rfl (l' := (LS_IIuuu p0 (5 : Int32))) rfl ?_
      show Steps p.tables e below (s₁.setTop (mkF m 5 (LS_IIuuu p0 (5 : Int32)) [])) _
      refine XS.iloadN X0.here hx rfl (hb hby at_5) rfl ?_
      exact k
    obtain ⟨_, _, ⟨T15, L15, k15, n15⟩, -, X15, ⟨Lc15, hQ15, l15, y15, z15⟩, st15⟩ := Jvm.LawKit.callS X0 hx (y := (⟨"com/example/weighted_scheduler/weightedscheduler/JobStateIsWaitingPinLaw", "pick", "(I)Lcom/example/weighted_scheduler/weightedscheduler/JobState;"⟩ : MethodName)) hown (mvT hZ (hw _ (List.mem_of_getElem? (i := 0) rfl))) (mvT hZ (hw _ (List.mem_of_getElem? (i := 1) rfl))) (mvT hZ (hw _ (List.mem_of_getElem? (i := 2) rfl))) (mvT hZ (hw _ (List.mem_of_getElem? (i := 3) rfl))) (by decide) (backOf (W := 0) (rm1_5 l Z a0 hw [] w_JobState_DEAD h0 n0 Z0 S_JobState_DEAD) hZ (hw _ (List.mem_of_getElem? (i := 3) rfl)) (hw _ (List.mem_of_getElem? (i := 2) rfl)) (by decide) (by decide)) (g := (mkF m 6 (LS_IIuuu p0 (5 : Int32)) [(.int (5 : Int32))])) rfl (by rw [hml]; rfl) (argsL := [(.int (5 : Int32))]) (rest := []) (lenOf pd__I_Lcom_example_weighted_scheduler_weightedscheduler_JobState_ rfl) rfl (by show 2 * 0 + _ ≤ _; exact Nat.le_of_eq rfl) (hb hby at_6) (fun _ _ => ⟨rfl, e0, (by decide : 0 + 0 ≤ _), (by decide : 0 + 0 ≤ _)⟩)
    dsimp only [Pt.U, Pt.locs, Pt.cells, Pt.slots] at X15 l15 y15 z15 st15 hQ15
    subst l15 y15 z15
    obtain ⟨rfl, N15q, e15⟩ := hQ15
    have N15 := Fr.app N0 N15q
    refine own_go (B := T15.setTop (mkF m 9 (LS_IIuuu p0 (5 : Int32)) [(.ref w_JobState_DEAD)])) (fun t k => st15 _ k) ?_
    refine own_go (B := T15.setTop (mkF m 31 (LS_IIRIu p0 (5 : Int32) w_JobState_DEAD (0 : Int32)) [(.ref w_JobState_DEAD)])) (fun t k => ?_) ?_
    · show Steps p.tables e below (T15.setTop (mkF m 9 (LS_IIuuu p0 (5 : Int32)) [(.ref w_JobState_DEAD)])) _
      refine XS.astoreN X15.here hx rfl (hb hby at_9) rfl rfl (l' := (LS_IIRuu p0 (5 : Int32) w_JobState_DEAD)) rfl ?_
      show Steps p.tables e below (T15.setTop (mkF m 10 (LS_IIRuu p0 (5 : Int32) w_JobState_DEAD) [])) _
      refine XS.iloadN X15.here hx rfl (hb hby at_10) rfl ?_
      show Steps p.tables e below (T15.setTop (mkF m 11 (LS_IIRuu p0 (5 : Int32) w_JobState_DEAD) [(.int (5 : Int32))])) _
      refine XS.ifNo X15.here hx rfl (hb hby at_11) rfl ((if0 _ _).trans (feq (by decide : ¬ ((5 : Int32) = (0 : Int32)))).1) ?_
      show Steps p.tables e below (T15.setTop (mkF m 14 (LS_IIRuu p0 (5 : Int32) w_JobState_DEAD) [])) _
      refine XS.iloadN X15.here hx rfl (hb hby at_14) rfl ?_
      show Steps p.tables e below (T15.setTop (mkF m 15 (LS_IIRuu p0 (5 : Int32) w_JobState_DEAD) [(.int (5 : Int32))])) _
      refine XS.iconst X15.here hx rfl (hb hby at_15) ?_
      show Steps p.tables e below (T15.setTop (mkF m 16 (LS_IIRuu p0 (5 : Int32) w_JobState_DEAD) [(.int (1 : Int32)), (.int (5 : Int32))])) _
      refine XS.icmpNo X15.here hx rfl (hb hby at_16) rfl (feq (by decide : ¬ ((5 : Int32) = (1 : Int32)))).1 ?_
      show Steps p.tables e below (T15.setTop (mkF m 19 (LS_IIRuu p0 (5 : Int32) w_JobState_DEAD) [])) _
      refine XS.iloadN X15.here hx rfl (hb hby at_19) rfl ?_
      show Steps p.tables e below (T15.setTop (mkF m 20 (LS_IIRuu p0 (5 : Int32) w_JobState_DEAD) [(.int (5 : Int32))])) _
      refine XS.iconst X15.here hx rfl (hb hby at_20) ?_
      show Steps p.tables e below (T15.setTop (mkF m 21 (LS_IIRuu p0 (5 : Int32) w_JobState_DEAD) [(.int (4 : Int32)), (.int (5 : Int32))])) _
      refine XS.icmpYes X15.here hx rfl (pc0 := 21) (pc' := 28) rfl (hb hby at_21) rfl (feq (by decide : ¬ ((5 : Int32) = (4 : Int32)))).2 (by decide) (by decide) ?_
      show Steps p.tables e below (T15.setTop (mkF m 28 (LS_IIRuu p0 (5 : Int32) w_JobState_DEAD) [])) _
      refine XS.iconst X15.here hx rfl (hb hby at_28) ?_
      show Steps p.tables e below (T15.setTop (mkF m 29 (LS_IIRuu p0 (5 : Int32) w_JobState_DEAD) [(.int (0 : Int32))])) _
      refine XS.istoreN X15.here hx rfl (hb hby at_29) rfl (l' := (LS_IIRIu p0 (5 : Int32) w_JobState_DEAD (0 : Int32))) rfl ?_
      show Steps p.tables e below (T15.setTop (mkF m 30 (LS_IIRIu p0 (5 : Int32) w_JobState_DEAD (0 : Int32)) [])) _
      refine XS.aloadN X15.here hx rfl (hb hby at_30) rfl rfl ?_
      exact k
    obtain ⟨cq16, kq16, q16a, q16b, q16c⟩ := isOf hZ e15 E_JobState_DEAD
    obtain ⟨_, _, ⟨T16, L16, k16, n16⟩, -, X16, ⟨Lc16, hQ16, l16, y16, z16⟩, st16⟩ := X15.virtualBack hx (y := (⟨"com/example/weighted_scheduler/weightedscheduler/JobState", "isWaiting", "()Z"⟩ : MethodName)) (z := (⟨"com/example/weighted_scheduler/weightedscheduler/JobState", "isWaiting", "()Z"⟩ : MethodName)) hown (mvT hZ (hw _ (List.mem_of_getElem? (i := 7) rfl))) (mvT hZ (hw _ (List.mem_of_getElem? (i := 8) rfl))) (notFace_of_selects (args := #[]) (mvT hZ (hw _ (List.mem_of_getElem? (i := 10) rfl)))) (mvT hZ (hw _ (List.mem_of_getElem? (i := 10) rfl))) (mvT hZ (hw _ (List.mem_of_getElem? (i := 9) rfl))) (by decide) (backOf (W := 0) (rm2 l Z a0 hw [] w_JobState_DEAD w_JobState_SCHEDULED w_JobState_QUEUED w_JobState_RETRY_SCHEDULED h0 n0 Z0 S_JobState_SCHEDULED S_JobState_QUEUED S_JobState_RETRY_SCHEDULED) hZ (hw _ (List.mem_of_getElem? (i := 11) rfl)) (hw _ (List.mem_of_getElem? (i := 5) rfl)) (by decide) (by decide)) q16a q16c (g := (mkF m 31 (LS_IIRIu p0 (5 : Int32) w_JobState_DEAD (0 : Int32)) [(.ref w_JobState_DEAD)])) rfl (by rw [hml]; rfl) (Steps.refl _) (argsL := []) (rest := []) (lenOf pd___Z rfl) rfl (by show 2 * 0 + _ ≤ _; exact Nat.le_of_eq rfl) (hb hby at_31) (fun _ _ => ⟨rfl, e15, (by decide : 0 + 0 ≤ _), (by decide : 0 + 0 ≤ _)⟩)
    dsimp only [Pt.U, Pt.locs, Pt.cells, Pt.slots] at X16 l16 y16 z16 st16 hQ16
    subst l16 y16 z16
    obtain ⟨rfl, N16q, e16⟩ := hQ16
    have N16 := Fr.app N15 N16q
    refine own_go (B := T16.setTop (mkF m 34 (LS_IIRIu p0 (5 : Int32) w_JobState_DEAD (0 : Int32)) [(.int (if w_JobState_DEAD = w_JobState_SCHEDULED then (1 : Int32) else if w_JobState_DEAD = w_JobState_QUEUED then (1 : Int32) else if w_JobState_DEAD = w_JobState_RETRY_SCHEDULED then (1 : Int32) else (0 : Int32)))])) (fun t k => st16.trans k) ?_
    rw [show (if w_JobState_DEAD = w_JobState_SCHEDULED then (1 : Int32) else if w_JobState_DEAD = w_JobState_QUEUED then (1 : Int32) else if w_JobState_DEAD = w_JobState_RETRY_SCHEDULED then (1 : Int32) else (0 : Int32)) = (0 : Int32) from by rw [if_neg (Fld.ne F_JobState_DEAD_ordinal F_JobState_SCHEDULED_ordinal (by decide)), if_neg (Fld.ne F_JobState_DEAD_ordinal F_JobState_QUEUED_ordinal (by decide)), if_neg (Fld.ne F_JobState_DEAD_ordinal F_JobState_RETRY_SCHEDULED_ordinal (by decide))]]
    refine own_go (B := T16.setTop (mkF m 59 (LS_IIRII p0 (5 : Int32) w_JobState_DEAD (0 : Int32) (0 : Int32)) [(.int (1 : Int32))])) (fun t k => ?_) ?_
    · show Steps p.tables e below (T16.setTop (mkF m 34 (LS_IIRIu p0 (5 : Int32) w_JobState_DEAD (0 : Int32)) [(.int (0 : Int32))])) _
      refine XS.istore X16.here hx rfl (hb hby at_34) rfl (l' := (LS_IIRII p0 (5 : Int32) w_JobState_DEAD (0 : Int32) (0 : Int32))) rfl ?_
      show Steps p.tables e below (T16.setTop (mkF m 36 (LS_IIRII p0 (5 : Int32) w_JobState_DEAD (0 : Int32) (0 : Int32)) [])) _
      refine XS.iload X16.here hx rfl (hb hby at_36) rfl ?_
      show Steps p.tables e below (T16.setTop (mkF m 38 (LS_IIRII p0 (5 : Int32) w_JobState_DEAD (0 : Int32) (0 : Int32)) [(.int (0 : Int32))])) _
      refine XS.iloadN X16.here hx rfl (hb hby at_38) rfl ?_
      show Steps p.tables e below (T16.setTop (mkF m 39 (LS_IIRII p0 (5 : Int32) w_JobState_DEAD (0 : Int32) (0 : Int32)) [(.int (0 : Int32)), (.int (0 : Int32))])) _
      refine XS.icmpYes X16.here hx rfl (pc0 := 39) (pc' := 44) rfl (hb hby at_39) rfl (teq (by decide : (0 : Int32) = (0 : Int32))).1 (by decide) (by decide) ?_
      show Steps p.tables e below (T16.setTop (mkF m 44 (LS_IIRII p0 (5 : Int32) w_JobState_DEAD (0 : Int32) (0 : Int32)) [])) _
      refine XS.iload X16.here hx rfl (hb hby at_44) rfl ?_
      show Steps p.tables e below (T16.setTop (mkF m 46 (LS_IIRII p0 (5 : Int32) w_JobState_DEAD (0 : Int32) (0 : Int32)) [(.int (0 : Int32))])) _
      refine XS.ifYes X16.here hx rfl (pc0 := 46) (pc' := 58) rfl (hb hby at_46) rfl ((if0 _ _).trans (teq (by decide : (0 : Int32) = (0 : Int32))).1) (by decide) (by decide) ?_
      show Steps p.tables e below (T16.setTop (mkF m 58 (LS_IIRII p0 (5 : Int32) w_JobState_DEAD (0 : Int32) (0 : Int32)) [])) _
      refine XS.iconst X16.here hx rfl (hb hby at_58) ?_
      exact k
    obtain ⟨fs, hr, hrun, hended, hW, hsame⟩ := X16.leave (v := some (.int (1 : Int32))) (fun h => by rw [Bd.returns] at h; cases h)
    refine ⟨_, _, ?_, hrun, hended, _, _, rfl, ?_, ⟨_, rfl⟩, hW, hsame.mono (by decide) (by decide)⟩
    · show Steps p.tables e below (T16.setTop (mkF m 59 (LS_IIRII p0 (5 : Int32) w_JobState_DEAD (0 : Int32) (0 : Int32)) [(.int (1 : Int32))])) _
      exact retN X16 hx (t := .boolean) Bd.returns (by simp) (hb hby at_59) hr
    · show Q0 Z p0 w_JobState_SCHEDULED w_JobState_SUCCEEDED w_JobState_QUEUED w_JobState_RETRY_SCHEDULED w_JobState_EXPIRED w_JobState_CANCELLED w_JobState_LEASED w_JobState_DEAD h0 n0 _ T16.heap _
      rw [e16]
      exact ⟨rfl, N16⟩
  · rw [hk1]
    refine own_go (B := s₁.setTop (mkF m 6 (LS_IIuuu p0 (6 : Int32)) [(.int (6 : Int32))])) (fun t k => ?_) ?_
    · show Steps p.tables e below (s₁.setTop (mkF m 4 (LS_Iuuuu p0) [(.int (6 : Int32))])) _
      refine XS.istoreN X0.here hx rfl (hb hby at_4) rfl (l' := (LS_IIuuu p0 (6 : Int32))) rfl ?_
      show Steps p.tables e below (s₁.setTop (mkF m 5 (LS_IIuuu p0 (6 : Int32)) [])) _
      refine XS.iloadN X0.here hx rfl (hb hby at_5) rfl ?_
      exact k
    obtain ⟨_, _, ⟨T17, L17, k17, n17⟩, -, X17, ⟨Lc17, hQ17, l17, y17, z17⟩, st17⟩ := Jvm.LawKit.callS X0 hx (y := (⟨"com/example/weighted_scheduler/weightedscheduler/JobStateIsWaitingPinLaw", "pick", "(I)Lcom/example/weighted_scheduler/weightedscheduler/JobState;"⟩ : MethodName)) hown (mvT hZ (hw _ (List.mem_of_getElem? (i := 0) rfl))) (mvT hZ (hw _ (List.mem_of_getElem? (i := 1) rfl))) (mvT hZ (hw _ (List.mem_of_getElem? (i := 2) rfl))) (mvT hZ (hw _ (List.mem_of_getElem? (i := 3) rfl))) (by decide) (backOf (W := 0) (rm1_6 l Z a0 hw [] w_JobState_EXPIRED h0 n0 Z0 S_JobState_EXPIRED) hZ (hw _ (List.mem_of_getElem? (i := 3) rfl)) (hw _ (List.mem_of_getElem? (i := 2) rfl)) (by decide) (by decide)) (g := (mkF m 6 (LS_IIuuu p0 (6 : Int32)) [(.int (6 : Int32))])) rfl (by rw [hml]; rfl) (argsL := [(.int (6 : Int32))]) (rest := []) (lenOf pd__I_Lcom_example_weighted_scheduler_weightedscheduler_JobState_ rfl) rfl (by show 2 * 0 + _ ≤ _; exact Nat.le_of_eq rfl) (hb hby at_6) (fun _ _ => ⟨rfl, e0, (by decide : 0 + 0 ≤ _), (by decide : 0 + 0 ≤ _)⟩)
    dsimp only [Pt.U, Pt.locs, Pt.cells, Pt.slots] at X17 l17 y17 z17 st17 hQ17
    subst l17 y17 z17
    obtain ⟨rfl, N17q, e17⟩ := hQ17
    have N17 := Fr.app N0 N17q
    refine own_go (B := T17.setTop (mkF m 9 (LS_IIuuu p0 (6 : Int32)) [(.ref w_JobState_EXPIRED)])) (fun t k => st17 _ k) ?_
    refine own_go (B := T17.setTop (mkF m 31 (LS_IIRIu p0 (6 : Int32) w_JobState_EXPIRED (0 : Int32)) [(.ref w_JobState_EXPIRED)])) (fun t k => ?_) ?_
    · show Steps p.tables e below (T17.setTop (mkF m 9 (LS_IIuuu p0 (6 : Int32)) [(.ref w_JobState_EXPIRED)])) _
      refine XS.astoreN X17.here hx rfl (hb hby at_9) rfl rfl (l' := (LS_IIRuu p0 (6 : Int32) w_JobState_EXPIRED)) rfl ?_
      show Steps p.tables e below (T17.setTop (mkF m 10 (LS_IIRuu p0 (6 : Int32) w_JobState_EXPIRED) [])) _
      refine XS.iloadN X17.here hx rfl (hb hby at_10) rfl ?_
      show Steps p.tables e below (T17.setTop (mkF m 11 (LS_IIRuu p0 (6 : Int32) w_JobState_EXPIRED) [(.int (6 : Int32))])) _
      refine XS.ifNo X17.here hx rfl (hb hby at_11) rfl ((if0 _ _).trans (feq (by decide : ¬ ((6 : Int32) = (0 : Int32)))).1) ?_
      show Steps p.tables e below (T17.setTop (mkF m 14 (LS_IIRuu p0 (6 : Int32) w_JobState_EXPIRED) [])) _
      refine XS.iloadN X17.here hx rfl (hb hby at_14) rfl ?_
      show Steps p.tables e below (T17.setTop (mkF m 15 (LS_IIRuu p0 (6 : Int32) w_JobState_EXPIRED) [(.int (6 : Int32))])) _
      refine XS.iconst X17.here hx rfl (hb hby at_15) ?_
      show Steps p.tables e below (T17.setTop (mkF m 16 (LS_IIRuu p0 (6 : Int32) w_JobState_EXPIRED) [(.int (1 : Int32)), (.int (6 : Int32))])) _
      refine XS.icmpNo X17.here hx rfl (hb hby at_16) rfl (feq (by decide : ¬ ((6 : Int32) = (1 : Int32)))).1 ?_
      show Steps p.tables e below (T17.setTop (mkF m 19 (LS_IIRuu p0 (6 : Int32) w_JobState_EXPIRED) [])) _
      refine XS.iloadN X17.here hx rfl (hb hby at_19) rfl ?_
      show Steps p.tables e below (T17.setTop (mkF m 20 (LS_IIRuu p0 (6 : Int32) w_JobState_EXPIRED) [(.int (6 : Int32))])) _
      refine XS.iconst X17.here hx rfl (hb hby at_20) ?_
      show Steps p.tables e below (T17.setTop (mkF m 21 (LS_IIRuu p0 (6 : Int32) w_JobState_EXPIRED) [(.int (4 : Int32)), (.int (6 : Int32))])) _
      refine XS.icmpYes X17.here hx rfl (pc0 := 21) (pc' := 28) rfl (hb hby at_21) rfl (feq (by decide : ¬ ((6 : Int32) = (4 : Int32)))).2 (by decide) (by decide) ?_
      show Steps p.tables e below (T17.setTop (mkF m 28 (LS_IIRuu p0 (6 : Int32) w_JobState_EXPIRED) [])) _
      refine XS.iconst X17.here hx rfl (hb hby at_28) ?_
      show Steps p.tables e below (T17.setTop (mkF m 29 (LS_IIRuu p0 (6 : Int32) w_JobState_EXPIRED) [(.int (0 : Int32))])) _
      refine XS.istoreN X17.here hx rfl (hb hby at_29) rfl (l' := (LS_IIRIu p0 (6 : Int32) w_JobState_EXPIRED (0 : Int32))) rfl ?_
      show Steps p.tables e below (T17.setTop (mkF m 30 (LS_IIRIu p0 (6 : Int32) w_JobState_EXPIRED (0 : Int32)) [])) _
      refine XS.aloadN X17.here hx rfl (hb hby at_30) rfl rfl ?_
      exact k
    obtain ⟨cq18, kq18, q18a, q18b, q18c⟩ := isOf hZ e17 E_JobState_EXPIRED
    obtain ⟨_, _, ⟨T18, L18, k18, n18⟩, -, X18, ⟨Lc18, hQ18, l18, y18, z18⟩, st18⟩ := X17.virtualBack hx (y := (⟨"com/example/weighted_scheduler/weightedscheduler/JobState", "isWaiting", "()Z"⟩ : MethodName)) (z := (⟨"com/example/weighted_scheduler/weightedscheduler/JobState", "isWaiting", "()Z"⟩ : MethodName)) hown (mvT hZ (hw _ (List.mem_of_getElem? (i := 7) rfl))) (mvT hZ (hw _ (List.mem_of_getElem? (i := 8) rfl))) (notFace_of_selects (args := #[]) (mvT hZ (hw _ (List.mem_of_getElem? (i := 10) rfl)))) (mvT hZ (hw _ (List.mem_of_getElem? (i := 10) rfl))) (mvT hZ (hw _ (List.mem_of_getElem? (i := 9) rfl))) (by decide) (backOf (W := 0) (rm2 l Z a0 hw [] w_JobState_EXPIRED w_JobState_SCHEDULED w_JobState_QUEUED w_JobState_RETRY_SCHEDULED h0 n0 Z0 S_JobState_SCHEDULED S_JobState_QUEUED S_JobState_RETRY_SCHEDULED) hZ (hw _ (List.mem_of_getElem? (i := 11) rfl)) (hw _ (List.mem_of_getElem? (i := 5) rfl)) (by decide) (by decide)) q18a q18c (g := (mkF m 31 (LS_IIRIu p0 (6 : Int32) w_JobState_EXPIRED (0 : Int32)) [(.ref w_JobState_EXPIRED)])) rfl (by rw [hml]; rfl) (Steps.refl _) (argsL := []) (rest := []) (lenOf pd___Z rfl) rfl (by show 2 * 0 + _ ≤ _; exact Nat.le_of_eq rfl) (hb hby at_31) (fun _ _ => ⟨rfl, e17, (by decide : 0 + 0 ≤ _), (by decide : 0 + 0 ≤ _)⟩)
    dsimp only [Pt.U, Pt.locs, Pt.cells, Pt.slots] at X18 l18 y18 z18 st18 hQ18
    subst l18 y18 z18
    obtain ⟨rfl, N18q, e18⟩ := hQ18
    have N18 := Fr.app N17 N18q
    refine own_go (B := T18.setTop (mkF m 34 (LS_IIRIu p0 (6 : Int32) w_JobState_EXPIRED (0 : Int32)) [(.int (if w_JobState_EXPIRED = w_JobState_SCHEDULED then (1 : Int32) else if w_JobState_EXPIRED = w_JobState_QUEUED then (1 : Int32) else if w_JobState_EXPIRED = w_JobState_RETRY_SCHEDULED then (1 : Int32) else (0 : Int32)))])) (fun t k => st18.trans k) ?_
    rw [show (if w_JobState_EXPIRED = w_JobState_SCHEDULED then (1 : Int32) else if w_JobState_EXPIRED = w_JobState_QUEUED then (1 : Int32) else if w_JobState_EXPIRED = w_JobState_RETRY_SCHEDULED then (1 : Int32) else (0 : Int32)) = (0 : Int32) from by rw [if_neg (Fld.ne F_JobState_EXPIRED_ordinal F_JobState_SCHEDULED_ordinal (by decide)), if_neg (Fld.ne F_JobState_EXPIRED_ordinal F_JobState_QUEUED_ordinal (by decide)), if_neg (Fld.ne F_JobState_EXPIRED_ordinal F_JobState_RETRY_SCHEDULED_ordinal (by decide))]]
    refine own_go (B := T18.setTop (mkF m 59 (LS_IIRII p0 (6 : Int32) w_JobState_EXPIRED (0 : Int32) (0 : Int32)) [(.int (1 : Int32))])) (fun t k => ?_) ?_
    · show Steps p.tables e below (T18.setTop (mkF m 34 (LS_IIRIu p0 (6 : Int32) w_JobState_EXPIRED (0 : Int32)) [(.int (0 : Int32))])) _
      refine XS.istore X18.here hx rfl (hb hby at_34) rfl (l' := (LS_IIRII p0 (6 : Int32) w_JobState_EXPIRED (0 : Int32) (0 : Int32))) rfl ?_
      show Steps p.tables e below (T18.setTop (mkF m 36 (LS_IIRII p0 (6 : Int32) w_JobState_EXPIRED (0 : Int32) (0 : Int32)) [])) _
      refine XS.iload X18.here hx rfl (hb hby at_36) rfl ?_
      show Steps p.tables e below (T18.setTop (mkF m 38 (LS_IIRII p0 (6 : Int32) w_JobState_EXPIRED (0 : Int32) (0 : Int32)) [(.int (0 : Int32))])) _
      refine XS.iloadN X18.here hx rfl (hb hby at_38) rfl ?_
      show Steps p.tables e below (T18.setTop (mkF m 39 (LS_IIRII p0 (6 : Int32) w_JobState_EXPIRED (0 : Int32) (0 : Int32)) [(.int (0 : Int32)), (.int (0 : Int32))])) _
      refine XS.icmpYes X18.here hx rfl (pc0 := 39) (pc' := 44) rfl (hb hby at_39) rfl (teq (by decide : (0 : Int32) = (0 : Int32))).1 (by decide) (by decide) ?_
      show Steps p.tables e below (T18.setTop (mkF m 44 (LS_IIRII p0 (6 : Int32) w_JobState_EXPIRED (0 : Int32) (0 : Int32)) [])) _
      refine XS.iload X18.here hx rfl (hb hby at_44) rfl ?_
      show Steps p.tables e below (T18.setTop (mkF m 46 (LS_IIRII p0 (6 : Int32) w_JobState_EXPIRED (0 : Int32) (0 : Int32)) [(.int (0 : Int32))])) _
      refine XS.ifYes X18.here hx rfl (pc0 := 46) (pc' := 58) rfl (hb hby at_46) rfl ((if0 _ _).trans (teq (by decide : (0 : Int32) = (0 : Int32))).1) (by decide) (by decide) ?_
      show Steps p.tables e below (T18.setTop (mkF m 58 (LS_IIRII p0 (6 : Int32) w_JobState_EXPIRED (0 : Int32) (0 : Int32)) [])) _
      refine XS.iconst X18.here hx rfl (hb hby at_58) ?_
      exact k
    obtain ⟨fs, hr, hrun, hended, hW, hsame⟩ := X18.leave (v := some (.int (1 : Int32))) (fun h => by rw [Bd.returns] at h; cases h)
    refine ⟨_, _, ?_, hrun, hended, _, _, rfl, ?_, ⟨_, rfl⟩, hW, hsame.mono (by decide) (by decide)⟩
    · show Steps p.tables e below (T18.setTop (mkF m 59 (LS_IIRII p0 (6 : Int32) w_JobState_EXPIRED (0 : Int32) (0 : Int32)) [(.int (1 : Int32))])) _
      exact retN X18 hx (t := .boolean) Bd.returns (by simp) (hb hby at_59) hr
    · show Q0 Z p0 w_JobState_SCHEDULED w_JobState_SUCCEEDED w_JobState_QUEUED w_JobState_RETRY_SCHEDULED w_JobState_EXPIRED w_JobState_CANCELLED w_JobState_LEASED w_JobState_DEAD h0 n0 _ T18.heap _
      rw [e18]
      exact ⟨rfl, N18⟩
  · rw [hk1]
    refine own_go (B := s₁.setTop (mkF m 6 (LS_IIuuu p0 (7 : Int32)) [(.int (7 : Int32))])) (fun t k => ?_) ?_
    · show Steps p.tables e below (s₁.setTop (mkF m 4 (LS_Iuuuu p0) [(.int (7 : Int32))])) _
      refine XS.istoreN X0.here hx rfl (hb hby at_4) rfl (l' := (LS_IIuuu p0 (7 : Int32))) rfl ?_
      show Steps p.tables e below (s₁.setTop (mkF m 5 (LS_IIuuu p0 (7 : Int32)) [])) _
      refine XS.iloadN X0.here hx rfl (hb hby at_5) rfl ?_
      exact k
    obtain ⟨_, _, ⟨T19, L19, k19, n19⟩, -, X19, ⟨Lc19, hQ19, l19, y19, z19⟩, st19⟩ := Jvm.LawKit.callS X0 hx (y := (⟨"com/example/weighted_scheduler/weightedscheduler/JobStateIsWaitingPinLaw", "pick", "(I)Lcom/example/weighted_scheduler/weightedscheduler/JobState;"⟩ : MethodName)) hown (mvT hZ (hw _ (List.mem_of_getElem? (i := 0) rfl))) (mvT hZ (hw _ (List.mem_of_getElem? (i := 1) rfl))) (mvT hZ (hw _ (List.mem_of_getElem? (i := 2) rfl))) (mvT hZ (hw _ (List.mem_of_getElem? (i := 3) rfl))) (by decide) (backOf (W := 0) (rm1_7 l Z a0 hw [] w_JobState_CANCELLED h0 n0 Z0 S_JobState_CANCELLED) hZ (hw _ (List.mem_of_getElem? (i := 3) rfl)) (hw _ (List.mem_of_getElem? (i := 2) rfl)) (by decide) (by decide)) (g := (mkF m 6 (LS_IIuuu p0 (7 : Int32)) [(.int (7 : Int32))])) rfl (by rw [hml]; rfl) (argsL := [(.int (7 : Int32))]) (rest := []) (lenOf pd__I_Lcom_example_weighted_scheduler_weightedscheduler_JobState_ rfl) rfl (by show 2 * 0 + _ ≤ _; exact Nat.le_of_eq rfl) (hb hby at_6) (fun _ _ => ⟨rfl, e0, (by decide : 0 + 0 ≤ _), (by decide : 0 + 0 ≤ _)⟩)
    dsimp only [Pt.U, Pt.locs, Pt.cells, Pt.slots] at X19 l19 y19 z19 st19 hQ19
    subst l19 y19 z19
    obtain ⟨rfl, N19q, e19⟩ := hQ19
    have N19 := Fr.app N0 N19q
    refine own_go (B := T19.setTop (mkF m 9 (LS_IIuuu p0 (7 : Int32)) [(.ref w_JobState_CANCELLED)])) (fun t k => st19 _ k) ?_
    refine own_go (B := T19.setTop (mkF m 31 (LS_IIRIu p0 (7 : Int32) w_JobState_CANCELLED (0 : Int32)) [(.ref w_JobState_CANCELLED)])) (fun t k => ?_) ?_
    · show Steps p.tables e below (T19.setTop (mkF m 9 (LS_IIuuu p0 (7 : Int32)) [(.ref w_JobState_CANCELLED)])) _
      refine XS.astoreN X19.here hx rfl (hb hby at_9) rfl rfl (l' := (LS_IIRuu p0 (7 : Int32) w_JobState_CANCELLED)) rfl ?_
      show Steps p.tables e below (T19.setTop (mkF m 10 (LS_IIRuu p0 (7 : Int32) w_JobState_CANCELLED) [])) _
      refine XS.iloadN X19.here hx rfl (hb hby at_10) rfl ?_
      show Steps p.tables e below (T19.setTop (mkF m 11 (LS_IIRuu p0 (7 : Int32) w_JobState_CANCELLED) [(.int (7 : Int32))])) _
      refine XS.ifNo X19.here hx rfl (hb hby at_11) rfl ((if0 _ _).trans (feq (by decide : ¬ ((7 : Int32) = (0 : Int32)))).1) ?_
      show Steps p.tables e below (T19.setTop (mkF m 14 (LS_IIRuu p0 (7 : Int32) w_JobState_CANCELLED) [])) _
      refine XS.iloadN X19.here hx rfl (hb hby at_14) rfl ?_
      show Steps p.tables e below (T19.setTop (mkF m 15 (LS_IIRuu p0 (7 : Int32) w_JobState_CANCELLED) [(.int (7 : Int32))])) _
      refine XS.iconst X19.here hx rfl (hb hby at_15) ?_
      show Steps p.tables e below (T19.setTop (mkF m 16 (LS_IIRuu p0 (7 : Int32) w_JobState_CANCELLED) [(.int (1 : Int32)), (.int (7 : Int32))])) _
      refine XS.icmpNo X19.here hx rfl (hb hby at_16) rfl (feq (by decide : ¬ ((7 : Int32) = (1 : Int32)))).1 ?_
      show Steps p.tables e below (T19.setTop (mkF m 19 (LS_IIRuu p0 (7 : Int32) w_JobState_CANCELLED) [])) _
      refine XS.iloadN X19.here hx rfl (hb hby at_19) rfl ?_
      show Steps p.tables e below (T19.setTop (mkF m 20 (LS_IIRuu p0 (7 : Int32) w_JobState_CANCELLED) [(.int (7 : Int32))])) _
      refine XS.iconst X19.here hx rfl (hb hby at_20) ?_
      show Steps p.tables e below (T19.setTop (mkF m 21 (LS_IIRuu p0 (7 : Int32) w_JobState_CANCELLED) [(.int (4 : Int32)), (.int (7 : Int32))])) _
      refine XS.icmpYes X19.here hx rfl (pc0 := 21) (pc' := 28) rfl (hb hby at_21) rfl (feq (by decide : ¬ ((7 : Int32) = (4 : Int32)))).2 (by decide) (by decide) ?_
      show Steps p.tables e below (T19.setTop (mkF m 28 (LS_IIRuu p0 (7 : Int32) w_JobState_CANCELLED) [])) _
      refine XS.iconst X19.here hx rfl (hb hby at_28) ?_
      show Steps p.tables e below (T19.setTop (mkF m 29 (LS_IIRuu p0 (7 : Int32) w_JobState_CANCELLED) [(.int (0 : Int32))])) _
      refine XS.istoreN X19.here hx rfl (hb hby at_29) rfl (l' := (LS_IIRIu p0 (7 : Int32) w_JobState_CANCELLED (0 : Int32))) rfl ?_
      show Steps p.tables e below (T19.setTop (mkF m 30 (LS_IIRIu p0 (7 : Int32) w_JobState_CANCELLED (0 : Int32)) [])) _
      refine XS.aloadN X19.here hx rfl (hb hby at_30) rfl rfl ?_
      exact k
    obtain ⟨cq20, kq20, q20a, q20b, q20c⟩ := isOf hZ e19 E_JobState_CANCELLED
    obtain ⟨_, _, ⟨T20, L20, k20, n20⟩, -, X20, ⟨Lc20, hQ20, l20, y20, z20⟩, st20⟩ := X19.virtualBack hx (y := (⟨"com/example/weighted_scheduler/weightedscheduler/JobState", "isWaiting", "()Z"⟩ : MethodName)) (z := (⟨"com/example/weighted_scheduler/weightedscheduler/JobState", "isWaiting", "()Z"⟩ : MethodName)) hown (mvT hZ (hw _ (List.mem_of_getElem? (i := 7) rfl))) (mvT hZ (hw _ (List.mem_of_getElem? (i := 8) rfl))) (notFace_of_selects (args := #[]) (mvT hZ (hw _ (List.mem_of_getElem? (i := 10) rfl)))) (mvT hZ (hw _ (List.mem_of_getElem? (i := 10) rfl))) (mvT hZ (hw _ (List.mem_of_getElem? (i := 9) rfl))) (by decide) (backOf (W := 0) (rm2 l Z a0 hw [] w_JobState_CANCELLED w_JobState_SCHEDULED w_JobState_QUEUED w_JobState_RETRY_SCHEDULED h0 n0 Z0 S_JobState_SCHEDULED S_JobState_QUEUED S_JobState_RETRY_SCHEDULED) hZ (hw _ (List.mem_of_getElem? (i := 11) rfl)) (hw _ (List.mem_of_getElem? (i := 5) rfl)) (by decide) (by decide)) q20a q20c (g := (mkF m 31 (LS_IIRIu p0 (7 : Int32) w_JobState_CANCELLED (0 : Int32)) [(.ref w_JobState_CANCELLED)])) rfl (by rw [hml]; rfl) (Steps.refl _) (argsL := []) (rest := []) (lenOf pd___Z rfl) rfl (by show 2 * 0 + _ ≤ _; exact Nat.le_of_eq rfl) (hb hby at_31) (fun _ _ => ⟨rfl, e19, (by decide : 0 + 0 ≤ _), (by decide : 0 + 0 ≤ _)⟩)
    dsimp only [Pt.U, Pt.locs, Pt.cells, Pt.slots] at X20 l20 y20 z20 st20 hQ20
    subst l20 y20 z20
    obtain ⟨rfl, N20q, e20⟩ := hQ20
    have N20 := Fr.app N19 N20q
    refine own_go (B := T20.setTop (mkF m 34 (LS_IIRIu p0 (7 : Int32) w_JobState_CANCELLED (0 : Int32)) [(.int (if w_JobState_CANCELLED = w_JobState_SCHEDULED then (1 : Int32) else if w_JobState_CANCELLED = w_JobState_QUEUED then (1 : Int32) else if w_JobState_CANCELLED = w_JobState_RETRY_SCHEDULED then (1 : Int32) else (0 : Int32)))])) (fun t k => st20.trans k) ?_
    rw [show (if w_JobState_CANCELLED = w_JobState_SCHEDULED then (1 : Int32) else if w_JobState_CANCELLED = w_JobState_QUEUED then (1 : Int32) else if w_JobState_CANCELLED = w_JobState_RETRY_SCHEDULED then (1 : Int32) else (0 : Int32)) = (0 : Int32) from by rw [if_neg (Fld.ne F_JobState_CANCELLED_ordinal F_JobState_SCHEDULED_ordinal (by decide)), if_neg (Fld.ne F_JobState_CANCELLED_ordinal F_JobState_QUEUED_ordinal (by decide)), if_neg (Fld.ne F_JobState_CANCELLED_ordinal F_JobState_RETRY_SCHEDULED_ordinal (by decide))]]
    refine own_go (B := T20.setTop (mkF m 59 (LS_IIRII p0 (7 : Int32) w_JobState_CANCELLED (0 : Int32) (0 : Int32)) [(.int (1 : Int32))])) (fun t k => ?_) ?_
    · show Steps p.tables e below (T20.setTop (mkF m 34 (LS_IIRIu p0 (7 : Int32) w_JobState_CANCELLED (0 : Int32)) [(.int (0 : Int32))])) _
      refine XS.istore X20.here hx rfl (hb hby at_34) rfl (l' := (LS_IIRII p0 (7 : Int32) w_JobState_CANCELLED (0 : Int32) (0 : Int32))) rfl ?_
      show Steps p.tables e below (T20.setTop (mkF m 36 (LS_IIRII p0 (7 : Int32) w_JobState_CANCELLED (0 : Int32) (0 : Int32)) [])) _
      refine XS.iload X20.here hx rfl (hb hby at_36) rfl ?_
      show Steps p.tables e below (T20.setTop (mkF m 38 (LS_IIRII p0 (7 : Int32) w_JobState_CANCELLED (0 : Int32) (0 : Int32)) [(.int (0 : Int32))])) _
      refine XS.iloadN X20.here hx rfl (hb hby at_38) rfl ?_
      show Steps p.tables e below (T20.setTop (mkF m 39 (LS_IIRII p0 (7 : Int32) w_JobState_CANCELLED (0 : Int32) (0 : Int32)) [(.int (0 : Int32)), (.int (0 : Int32))])) _
      refine XS.icmpYes X20.here hx rfl (pc0 := 39) (pc' := 44) rfl (hb hby at_39) rfl (teq (by decide : (0 : Int32) = (0 : Int32))).1 (by decide) (by decide) ?_
      show Steps p.tables e below (T20.setTop (mkF m 44 (LS_IIRII p0 (7 : Int32) w_JobState_CANCELLED (0 : Int32) (0 : Int32)) [])) _
      refine XS.iload X20.here hx rfl (hb hby at_44) rfl ?_
      show Steps p.tables e below (T20.setTop (mkF m 46 (LS_IIRII p0 (7 : Int32) w_JobState_CANCELLED (0 : Int32) (0 : Int32)) [(.int (0 : Int32))])) _
      refine XS.ifYes X20.here hx rfl (pc0 := 46) (pc' := 58) rfl (hb hby at_46) rfl ((if0 _ _).trans (teq (by decide : (0 : Int32) = (0 : Int32))).1) (by decide) (by decide) ?_
      show Steps p.tables e below (T20.setTop (mkF m 58 (LS_IIRII p0 (7 : Int32) w_JobState_CANCELLED (0 : Int32) (0 : Int32)) [])) _
      refine XS.iconst X20.here hx rfl (hb hby at_58) ?_
      exact k
    obtain ⟨fs, hr, hrun, hended, hW, hsame⟩ := X20.leave (v := some (.int (1 : Int32))) (fun h => by rw [Bd.returns] at h; cases h)
    refine ⟨_, _, ?_, hrun, hended, _, _, rfl, ?_, ⟨_, rfl⟩, hW, hsame.mono (by decide) (by decide)⟩
    · show Steps p.tables e below (T20.setTop (mkF m 59 (LS_IIRII p0 (7 : Int32) w_JobState_CANCELLED (0 : Int32) (0 : Int32)) [(.int (1 : Int32))])) _
      exact retN X20 hx (t := .boolean) Bd.returns (by simp) (hb hby at_59) hr
    · show Q0 Z p0 w_JobState_SCHEDULED w_JobState_SUCCEEDED w_JobState_QUEUED w_JobState_RETRY_SCHEDULED w_JobState_EXPIRED w_JobState_CANCELLED w_JobState_LEASED w_JobState_DEAD h0 n0 _ T20.heap _
      rw [e20]
      exact ⟨rfl, N20⟩
set_option maxRecDepth 65536 in
set_option maxHeartbeats 40000000 in
theorem comes_1 {Post : Tables → Env → Array Value → State → Outcome → State → Prop} (hpost : ∀ tb e args s v u, (limb_1_1.after args s (.returned v) u = true ∧ limb_1_2.after args s (.returned v) u = true ∧ True) → FrameEnd s (.returned v) u (Jvm.fieldLocs frame_1_writes args s ++ Jvm.arrayLocs frame_1_arrays args s ++ Jvm.staticLocs frame_1_statics s) 0 0 → Post tb e args s (.returned v) u) :
    ArmFor flags0 classFile x code maxLocals ret World_1 tables_1 room_1 Calls_1 rest_1 Pre_1 Post := by
  intro l hfl _ _ p e ha hc hk s m args below hf hA hF happ hP
  obtain ⟨hcalls, hrest, hpre⟩ := hP
  obtain ⟨-, -, -, hnamed, -, -, -, hat⟩ := (Spec.applies_iff hf).mp happ
  obtain ⟨hg, hn⟩ := and_e (Cond.before_iff.mp (show (Jvm.Cond.and given_1 narrow_1).before args s = true from hpre))
  obtain ⟨g1, g2⟩ := and_e hg
  obtain ⟨w0, rfl⟩ : ∃ w0 : Value, args = #[w0] := by
    have hs : args.size = 1 := by simpa [Cond.value, given_1] using g1
    obtain ⟨L⟩ := args
    match L, hs with
    | [w0], _ => exact ⟨w0, rfl⟩
  have hw := fun d (hd : d ∈ tables_1) => atoms_spec (ws := Jvm.Cond.code x code maxLocals ret :: tables_1) hat d (List.mem_cons_of_mem _ hd)
  have hfit : Fit s := fun {y c} hc i hi => by
    obtain ⟨ha, rfl⟩ := Array.getElem?_eq_some_iff.mp hc
    have q := List.all_eq_true.mp ((Array.all_eq_true_iff_forall_mem.mp hF) _ (Array.getElem_mem ha)) i (List.mem_range.mpr hi)
    simpa [Array.getElem?_eq_getElem hi] using q
  obtain ⟨i0, ei0⟩ := is_v g2
  obtain rfl : w0 = (.int i0) := Option.some.inj ei0
  obtain ⟨g3, g4⟩ := and_e hn
  obtain ⟨w_JobState_SCHEDULED, ev_JobState_SCHEDULED⟩ := exa_v g3
  have S_JobState_SCHEDULED : Sta s s.heap "com/example/weighted_scheduler/weightedscheduler/JobState" "SCHEDULED" "Lcom/example/weighted_scheduler/weightedscheduler/JobState;" (.ref w_JobState_SCHEDULED) := Sta.start ev_JobState_SCHEDULED (Or.inr ⟨(hw _ (List.mem_of_getElem? (i := 5) rfl)), (hw _ (List.mem_of_getElem? (i := 6) rfl))⟩)
  have E_JobState_SCHEDULED : Exa s s.heap w_JobState_SCHEDULED "com/example/weighted_scheduler/weightedscheduler/JobState" := Exa.start ev_JobState_SCHEDULED g3
  obtain ⟨g5, g6⟩ := and_e g4
  obtain ⟨g7, g8⟩ := and_e g6
  obtain ⟨w_JobState_SUCCEEDED, ev_JobState_SUCCEEDED⟩ := exa_v g7
  have S_JobState_SUCCEEDED : Sta s s.heap "com/example/weighted_scheduler/weightedscheduler/JobState" "SUCCEEDED" "Lcom/example/weighted_scheduler/weightedscheduler/JobState;" (.ref w_JobState_SUCCEEDED) := Sta.start ev_JobState_SUCCEEDED (Or.inr ⟨(hw _ (List.mem_of_getElem? (i := 5) rfl)), (hw _ (List.mem_of_getElem? (i := 21) rfl))⟩)
  have E_JobState_SUCCEEDED : Exa s s.heap w_JobState_SUCCEEDED "com/example/weighted_scheduler/weightedscheduler/JobState" := Exa.start ev_JobState_SUCCEEDED g7
  obtain ⟨g9, g10⟩ := and_e g8
  obtain ⟨g11, g12⟩ := and_e g10
  obtain ⟨g13, g14⟩ := and_e g12
  obtain ⟨w_JobState_QUEUED, ev_JobState_QUEUED⟩ := exa_v g13
  have S_JobState_QUEUED : Sta s s.heap "com/example/weighted_scheduler/weightedscheduler/JobState" "QUEUED" "Lcom/example/weighted_scheduler/weightedscheduler/JobState;" (.ref w_JobState_QUEUED) := Sta.start ev_JobState_QUEUED (Or.inr ⟨(hw _ (List.mem_of_getElem? (i := 5) rfl)), (hw _ (List.mem_of_getElem? (i := 23) rfl))⟩)
  have E_JobState_QUEUED : Exa s s.heap w_JobState_QUEUED "com/example/weighted_scheduler/weightedscheduler/JobState" := Exa.start ev_JobState_QUEUED g13
  obtain ⟨g15, g16⟩ := and_e g14
  obtain ⟨g17, g18⟩ := and_e g16
  obtain ⟨w_JobState_RETRY_SCHEDULED, ev_JobState_RETRY_SCHEDULED⟩ := exa_v g17
  have S_JobState_RETRY_SCHEDULED : Sta s s.heap "com/example/weighted_scheduler/weightedscheduler/JobState" "RETRY_SCHEDULED" "Lcom/example/weighted_scheduler/weightedscheduler/JobState;" (.ref w_JobState_RETRY_SCHEDULED) := Sta.start ev_JobState_RETRY_SCHEDULED (Or.inr ⟨(hw _ (List.mem_of_getElem? (i := 5) rfl)), (hw _ (List.mem_of_getElem? (i := 25) rfl))⟩)
  have E_JobState_RETRY_SCHEDULED : Exa s s.heap w_JobState_RETRY_SCHEDULED "com/example/weighted_scheduler/weightedscheduler/JobState" := Exa.start ev_JobState_RETRY_SCHEDULED g17
  obtain ⟨g19, g20⟩ := and_e g18
  obtain ⟨g21, g22⟩ := and_e g20
  obtain ⟨w_JobState_EXPIRED, ev_JobState_EXPIRED⟩ := exa_v g21
  have S_JobState_EXPIRED : Sta s s.heap "com/example/weighted_scheduler/weightedscheduler/JobState" "EXPIRED" "Lcom/example/weighted_scheduler/weightedscheduler/JobState;" (.ref w_JobState_EXPIRED) := Sta.start ev_JobState_EXPIRED (Or.inr ⟨(hw _ (List.mem_of_getElem? (i := 5) rfl)), (hw _ (List.mem_of_getElem? (i := 27) rfl))⟩)
  have E_JobState_EXPIRED : Exa s s.heap w_JobState_EXPIRED "com/example/weighted_scheduler/weightedscheduler/JobState" := Exa.start ev_JobState_EXPIRED g21
  obtain ⟨g23, g24⟩ := and_e g22
  obtain ⟨g25, g26⟩ := and_e g24
  obtain ⟨w_JobState_CANCELLED, ev_JobState_CANCELLED⟩ := exa_v g25
  have S_JobState_CANCELLED : Sta s s.heap "com/example/weighted_scheduler/weightedscheduler/JobState" "CANCELLED" "Lcom/example/weighted_scheduler/weightedscheduler/JobState;" (.ref w_JobState_CANCELLED) := Sta.start ev_JobState_CANCELLED (Or.inr ⟨(hw _ (List.mem_of_getElem? (i := 5) rfl)), (hw _ (List.mem_of_getElem? (i := 29) rfl))⟩)
  have E_JobState_CANCELLED : Exa s s.heap w_JobState_CANCELLED "com/example/weighted_scheduler/weightedscheduler/JobState" := Exa.start ev_JobState_CANCELLED g25
  obtain ⟨g27, g28⟩ := and_e g26
  obtain ⟨g29, g30⟩ := and_e g28
  obtain ⟨w_JobState_LEASED, ev_JobState_LEASED⟩ := exa_v g29
  have S_JobState_LEASED : Sta s s.heap "com/example/weighted_scheduler/weightedscheduler/JobState" "LEASED" "Lcom/example/weighted_scheduler/weightedscheduler/JobState;" (.ref w_JobState_LEASED) := Sta.start ev_JobState_LEASED (Or.inr ⟨(hw _ (List.mem_of_getElem? (i := 5) rfl)), (hw _ (List.mem_of_getElem? (i := 31) rfl))⟩)
  have E_JobState_LEASED : Exa s s.heap w_JobState_LEASED "com/example/weighted_scheduler/weightedscheduler/JobState" := Exa.start ev_JobState_LEASED g29
  obtain ⟨g31, g32⟩ := and_e g30
  obtain ⟨g33, g34⟩ := and_e g32
  obtain ⟨g35, g36⟩ := and_e g34
  obtain ⟨g37, g38⟩ := and_e g36
  obtain ⟨w_JobState_DEAD, ev_JobState_DEAD⟩ := exa_v g37
  have S_JobState_DEAD : Sta s s.heap "com/example/weighted_scheduler/weightedscheduler/JobState" "DEAD" "Lcom/example/weighted_scheduler/weightedscheduler/JobState;" (.ref w_JobState_DEAD) := Sta.start ev_JobState_DEAD (Or.inr ⟨(hw _ (List.mem_of_getElem? (i := 5) rfl)), (hw _ (List.mem_of_getElem? (i := 35) rfl))⟩)
  have E_JobState_DEAD : Exa s s.heap w_JobState_DEAD "com/example/weighted_scheduler/weightedscheduler/JobState" := Exa.start ev_JobState_DEAD g37
  obtain ⟨g39, g40⟩ := and_e g38
  obtain ⟨g41, g42⟩ := and_e g40
  obtain ⟨g43, g44⟩ := and_e g42
  obtain ⟨g45, g46⟩ := and_e g44
  obtain ⟨g47, g48⟩ := and_e g46
  have F_JobState_SCHEDULED_isFinal : Fld s s.heap w_JobState_SCHEDULED "com/example/weighted_scheduler/weightedscheduler/JobState" "isFinal" "Z" (.int (0 : Int32)) := Fld.start ((fld_at ev_JobState_SCHEDULED).symm.trans (own_eqI g5))
  have F_JobState_SUCCEEDED_ordinal : Fld s s.heap w_JobState_SUCCEEDED "java/lang/Enum" "ordinal" "I" (.int (3 : Int32)) := Fld.start ((fld_at ev_JobState_SUCCEEDED).symm.trans (own_eqI g9))
  have F_JobState_SCHEDULED_ordinal : Fld s s.heap w_JobState_SCHEDULED "java/lang/Enum" "ordinal" "I" (.int (0 : Int32)) := Fld.start ((fld_at ev_JobState_SCHEDULED).symm.trans (own_eqI g11))
  have F_JobState_QUEUED_ordinal : Fld s s.heap w_JobState_QUEUED "java/lang/Enum" "ordinal" "I" (.int (1 : Int32)) := Fld.start ((fld_at ev_JobState_QUEUED).symm.trans (own_eqI g15))
  have F_JobState_RETRY_SCHEDULED_ordinal : Fld s s.heap w_JobState_RETRY_SCHEDULED "java/lang/Enum" "ordinal" "I" (.int (4 : Int32)) := Fld.start ((fld_at ev_JobState_RETRY_SCHEDULED).symm.trans (own_eqI g19))
  have F_JobState_EXPIRED_ordinal : Fld s s.heap w_JobState_EXPIRED "java/lang/Enum" "ordinal" "I" (.int (6 : Int32)) := Fld.start ((fld_at ev_JobState_EXPIRED).symm.trans (own_eqI g23))
  have F_JobState_CANCELLED_ordinal : Fld s s.heap w_JobState_CANCELLED "java/lang/Enum" "ordinal" "I" (.int (7 : Int32)) := Fld.start ((fld_at ev_JobState_CANCELLED).symm.trans (own_eqI g27))
  have F_JobState_LEASED_ordinal : Fld s s.heap w_JobState_LEASED "java/lang/Enum" "ordinal" "I" (.int (2 : Int32)) := Fld.start ((fld_at ev_JobState_LEASED).symm.trans (own_eqI g31))
  have F_JobState_QUEUED_isFinal : Fld s s.heap w_JobState_QUEUED "com/example/weighted_scheduler/weightedscheduler/JobState" "isFinal" "Z" (.int (0 : Int32)) := Fld.start ((fld_at ev_JobState_QUEUED).symm.trans (own_eqI g33))
  have F_JobState_RETRY_SCHEDULED_isFinal : Fld s s.heap w_JobState_RETRY_SCHEDULED "com/example/weighted_scheduler/weightedscheduler/JobState" "isFinal" "Z" (.int (0 : Int32)) := Fld.start ((fld_at ev_JobState_RETRY_SCHEDULED).symm.trans (own_eqI g35))
  have F_JobState_DEAD_ordinal : Fld s s.heap w_JobState_DEAD "java/lang/Enum" "ordinal" "I" (.int (5 : Int32)) := Fld.start ((fld_at ev_JobState_DEAD).symm.trans (own_eqI g39))
  have F_JobState_SUCCEEDED_isFinal : Fld s s.heap w_JobState_SUCCEEDED "com/example/weighted_scheduler/weightedscheduler/JobState" "isFinal" "Z" (.int (1 : Int32)) := Fld.start ((fld_at ev_JobState_SUCCEEDED).symm.trans (own_eqI g41))
  have F_JobState_EXPIRED_isFinal : Fld s s.heap w_JobState_EXPIRED "com/example/weighted_scheduler/weightedscheduler/JobState" "isFinal" "Z" (.int (1 : Int32)) := Fld.start ((fld_at ev_JobState_EXPIRED).symm.trans (own_eqI g43))
  have F_JobState_CANCELLED_isFinal : Fld s s.heap w_JobState_CANCELLED "com/example/weighted_scheduler/weightedscheduler/JobState" "isFinal" "Z" (.int (1 : Int32)) := Fld.start ((fld_at ev_JobState_CANCELLED).symm.trans (own_eqI g45))
  have F_JobState_LEASED_isFinal : Fld s s.heap w_JobState_LEASED "com/example/weighted_scheduler/weightedscheduler/JobState" "isFinal" "Z" (.int (0 : Int32)) := Fld.start ((fld_at ev_JobState_LEASED).symm.trans (own_eqI g47))
  have F_JobState_DEAD_isFinal : Fld s s.heap w_JobState_DEAD "com/example/weighted_scheduler/weightedscheduler/JobState" "isFinal" "Z" (.int (1 : Int32)) := Fld.start ((fld_at ev_JobState_DEAD).symm.trans (own_eqI g48))
  obtain ⟨n, o, h1, h2, h3, _, L, rfl, ⟨rfl, N⟩, hq⟩ := rm0 l s _ hw tables_1 i0 w_JobState_SCHEDULED w_JobState_SUCCEEDED w_JobState_QUEUED w_JobState_RETRY_SCHEDULED w_JobState_EXPIRED w_JobState_CANCELLED w_JobState_LEASED w_JobState_DEAD s.heap s.heap.size (Nat.le_refl _) S_JobState_SCHEDULED E_JobState_SCHEDULED S_JobState_SUCCEEDED E_JobState_SUCCEEDED S_JobState_QUEUED E_JobState_QUEUED S_JobState_RETRY_SCHEDULED E_JobState_RETRY_SCHEDULED S_JobState_EXPIRED E_JobState_EXPIRED S_JobState_CANCELLED E_JobState_CANCELLED S_JobState_LEASED E_JobState_LEASED S_JobState_DEAD E_JobState_DEAD F_JobState_SCHEDULED_isFinal F_JobState_SUCCEEDED_ordinal F_JobState_SCHEDULED_ordinal F_JobState_QUEUED_ordinal F_JobState_RETRY_SCHEDULED_ordinal F_JobState_EXPIRED_ordinal F_JobState_CANCELLED_ordinal F_JobState_LEASED_ordinal F_JobState_QUEUED_isFinal F_JobState_RETRY_SCHEDULED_isFinal F_JobState_DEAD_ordinal F_JobState_SUCCEEDED_isFinal F_JobState_EXPIRED_isFinal F_JobState_CANCELLED_isFinal F_JobState_LEASED_isFinal F_JobState_DEAD_isFinal p e ha hc hk s m _ below hf ((Spec.applies_iff_loose hf).mp happ).1 ⟨rfl, State.Warmed39.refl s, rfl⟩ trivial
  refine ⟨n, _, h1, h2, h3, hpost _ _ _ _ _ _ ⟨Cond.after_iff.mpr rfl, Cond.after_iff.mpr (eq_i res_at (Term.int_eval (1)) rfl), trivial⟩ ⟨hq.1, hq.2.1, (hq.2.2.sift fun y hy => Or.inr (N y hy)).mono (by decide) (by decide)⟩⟩
theorem main_1_1 : Claimed_1_1 := comes_1 fun _ _ _ _ _ _ h hF => ⟨h.1, hF⟩
theorem main_1_2 : Claimed_1_2 := comes_1 fun _ _ _ _ _ _ h hF => ⟨h.2.1, hF⟩
end Jvm.Pilot.@@N@@
namespace Jvm.Pilot.@@N@@
open Jvm Jvm.ClassFile Sem Op Lib Jvm.Free Jvm.Stand Jvm.Pilot.@@N@@.Jvm.D
/-! MADE BY PROGRAM (witnessworld.py) out of the Statement's table words and the real class files: 12 classes; the members and pool entries that the words name. The judged class is class 1, her method 2. -/
namespace start1
open Jvm.ClassFile
def u (s : String) : CpInfo := .utf8 (stringToUtf16 s)
/-- a pool by its gaps: so many unusable entries, then the entry; so many at the end -/
def gap : Nat → List CpInfo → List CpInfo
  | 0, r => r
  | n + 1, r => .unusable :: gap n r
def poolList (es : List (Nat × CpInfo)) (last : Nat) : List CpInfo := es.foldr (fun e r => gap e.1 (e.2 :: r)) (gap last [])
def pool (es : List (Nat × CpInfo)) (last : Nat) : Array CpInfo := ⟨poolList es last⟩
def fileOf (pool : Array CpInfo) (this : Nat) (attrs : Array Attribute := #[]) (ms : Array MethodInfo := #[]) (fl : Nat := 33) (sup : Nat := 0) (ifs : Array Nat := #[]) (fds : Array FieldInfo := #[]) : ClassFile where
  minorVersion := 0
  majorVersion := 65
  constantPool := pool
  accessFlags := fl
  thisClass := this
  superClass := sup
  interfaces := ifs
  fields := fds
  methods := ms
  attributes := attrs
def plain (name : String) (sup : Option ClassId) : Class where
  name := name
  kind := .ordinary
  loader := none
  accessFlags := 33
  super := sup
  interfaces := #[]
  cf := none
  fields := #[]
  methods := #[]
  instanceTypes := #[]
  staticTypes := #[]
  resolved := #[]
  callSites := []
  init := .initialized
  statics := none
  mirror := none

def pool0 : Array CpInfo := pool [(5, u "<init>"), (0, u "()V"), (1, .class_ 10), (1, u "java/lang/Object")] 113

def k0m0 : Method := { name := "<init>", desc := "()V", sig := { parameters := [], returnType := none }, accessFlags := 1, code := none }
/-- java/lang/Object -/
def k0 : Class := { plain "java/lang/Object" none with
  accessFlags := 33
  interfaces := #[]
  cf := some (fileOf pool0 8 #[] #[{ accessFlags := 1, nameIndex := 5, descriptorIndex := 6, attributes := #[] }] 33 0 #[] #[])
  fields := #[]
  methods := #[k0m0]
  instanceTypes := #[]
  staticTypes := #[]
  resolved := Array.replicate 124 none
  statics := none }

def pool1 : Array CpInfo := pool [(2, .class_ 4), (1, u "java/lang/Object"), (0, u "<init>"), (0, u "()V"), (0, .fieldref 8 9), (0, .class_ 10), (0, .nameAndType 11 12), (0, u "com/example/weighted_scheduler/weightedscheduler/JobState"), (0, u "SCHEDULED"), (0, u "Lcom/example/weighted_scheduler/weightedscheduler/JobState;"), (0, .fieldref 8 14), (0, .nameAndType 15 12), (0, u "QUEUED"), (0, .fieldref 8 17), (0, .nameAndType 18 12), (0, u "LEASED"), (0, .fieldref 8 20), (0, .nameAndType 21 12), (0, u "SUCCEEDED"), (0, .fieldref 8 23), (0, .nameAndType 24 12), (0, u "RETRY_SCHEDULED"), (0, .fieldref 8 26), (0, .nameAndType 27 12), (0, u "DEAD"), (0, .fieldref 8 29), (0, .nameAndType 30 12), (0, u "EXPIRED"), (0, .fieldref 8 32), (0, .nameAndType 33 12), (0, u "CANCELLED"), (0, .methodref 35 36), (0, .class_ 37), (0, .nameAndType 38 39), (0, u "com/example/weighted_scheduler/weightedscheduler/JobStateIsWaitingPinLaw"), (0, u "pick"), (0, u "(I)Lcom/example/weighted_scheduler/weightedscheduler/JobState;"), (0, .methodref 8 41), (0, .nameAndType 42 43), (0, u "isWaiting"), (0, u "()Z"), (0, .methodref 8 45), (0, .nameAndType 46 43), (0, u "isFinal"), (3, u "law"), (0, u "(I)Z")] 2

def k1m0 : Method := { name := "<init>", desc := "()V", sig := { parameters := [], returnType := none }, accessFlags := 2, code := none }
def k1c1 : Code := { maxStack := 2, maxLocals := 1, code := method_2_code, exceptionTable := #[], attributes := #[] }
def k1m1 : Method := { name := "pick", desc := "(I)Lcom/example/weighted_scheduler/weightedscheduler/JobState;", sig := { parameters := [.int], returnType := some (.object "com/example/weighted_scheduler/weightedscheduler/JobState") }, accessFlags := 10, code := some k1c1 }
def k1c2 : Code := { maxStack := 2, maxLocals := 5, code := code, exceptionTable := #[], attributes := #[] }
def k1m2 : Method := { name := "law", desc := "(I)Z", sig := { parameters := [.int], returnType := some .boolean }, accessFlags := 9, code := some k1c2 }
/-- com/example/weighted_scheduler/weightedscheduler/JobStateIsWaitingPinLaw -/
def k1 : Class := { plain "com/example/weighted_scheduler/weightedscheduler/JobStateIsWaitingPinLaw" (some 0) with
  accessFlags := 49
  interfaces := #[]
  cf := some (fileOf pool1 35 #[] #[{ accessFlags := 2, nameIndex := 5, descriptorIndex := 6, attributes := #[] }, { accessFlags := 10, nameIndex := 38, descriptorIndex := 39, attributes := #[] }, { accessFlags := 9, nameIndex := 50, descriptorIndex := 51, attributes := #[] }] 49 2 #[] #[])
  fields := #[]
  methods := #[k1m0, k1m1, k1m2]
  instanceTypes := #[]
  staticTypes := #[]
  resolved := Array.replicate 54 none
  statics := none }

def pool2 : Array CpInfo := pool [(1, .class_ 2), (0, u "java/lang/constant/Constable"), (0, .class_ 4), (0, u "java/lang/Object")] 6

/-- java/lang/constant/Constable -/
def k2 : Class := { plain "java/lang/constant/Constable" (some 0) with
  accessFlags := 1537
  interfaces := #[]
  cf := some (fileOf pool2 1 #[] #[] 1537 3 #[] #[])
  fields := #[]
  methods := #[]
  instanceTypes := #[]
  staticTypes := #[]
  resolved := Array.replicate 11 none
  statics := none }

def pool3 : Array CpInfo := pool [(1, .class_ 2), (0, u "java/lang/Comparable"), (0, .class_ 4), (0, u "java/lang/Object")] 7

/-- java/lang/Comparable -/
def k3 : Class := { plain "java/lang/Comparable" (some 0) with
  accessFlags := 1537
  interfaces := #[]
  cf := some (fileOf pool3 1 #[] #[] 1537 3 #[] #[])
  fields := #[]
  methods := #[]
  instanceTypes := #[]
  staticTypes := #[]
  resolved := Array.replicate 12 none
  statics := none }

def pool4 : Array CpInfo := pool [(1, .class_ 2), (0, u "java/io/Serializable"), (0, .class_ 4), (0, u "java/lang/Object")] 2

/-- java/io/Serializable -/
def k4 : Class := { plain "java/io/Serializable" (some 0) with
  accessFlags := 1537
  interfaces := #[]
  cf := some (fileOf pool4 1 #[] #[] 1537 3 #[] #[])
  fields := #[]
  methods := #[]
  instanceTypes := #[]
  staticTypes := #[]
  resolved := Array.replicate 7 none
  statics := none }

def pool5 : Array CpInfo := pool [(2, .class_ 4), (1, u "java/lang/Enum"), (0, u "name"), (0, u "Ljava/lang/String;"), (2, u "ordinal"), (0, u "I"), (1, .class_ 14), (1, u "java/lang/Object"), (4, u "hash"), (86, .class_ 108), (1, u "java/lang/Enum$EnumDesc"), (2, .class_ 112), (0, u "java/lang/constant/Constable"), (0, .class_ 114), (0, u "java/lang/Comparable"), (0, .class_ 116), (0, u "java/io/Serializable")] 87

/-- java/lang/Enum -/
def k5 : Class := { plain "java/lang/Enum" (some 0) with
  accessFlags := 1057
  interfaces := #[2, 3, 4]
  cf := some (fileOf pool5 2 #[.nestMembers #[106]] #[] 1057 12 #[111, 113, 115] #[{ accessFlags := 18, nameIndex := 5, descriptorIndex := 6, attributes := #[] }, { accessFlags := 18, nameIndex := 9, descriptorIndex := 10, attributes := #[] }, { accessFlags := 2, nameIndex := 19, descriptorIndex := 10, attributes := #[] }])
  fields := #[{ name := "name", type := (.object "java/lang/String"), accessFlags := 18, slot := 0, constantValue := 0 }, { name := "ordinal", type := .int, accessFlags := 18, slot := 1, constantValue := 0 }, { name := "hash", type := .int, accessFlags := 2, slot := 2, constantValue := 0 }]
  methods := #[]
  instanceTypes := #[(.object "java/lang/String"), .int, .int]
  staticTypes := #[]
  resolved := Array.replicate 204 none
  statics := none }

def pool6 : Array CpInfo := pool [(1, .class_ 2), (0, u "com/example/weighted_scheduler/weightedscheduler/JobState"), (0, .fieldref 1 4), (0, .nameAndType 5 6), (0, u "SCHEDULED"), (0, u "Lcom/example/weighted_scheduler/weightedscheduler/JobState;"), (0, .fieldref 1 8), (0, .nameAndType 9 6), (0, u "QUEUED"), (2, u "LEASED"), (2, u "SUCCEEDED"), (0, .fieldref 1 17), (0, .nameAndType 18 6), (0, u "RETRY_SCHEDULED"), (2, u "DEAD"), (2, u "EXPIRED"), (2, u "CANCELLED"), (2, u "$VALUES"), (0, u "[Lcom/example/weighted_scheduler/weightedscheduler/JobState;"), (6, .class_ 40), (1, u "java/lang/Enum"), (8, u "wireName"), (0, u "Ljava/lang/String;"), (0, .fieldref 1 52), (0, .nameAndType 53 54), (0, u "isFinal"), (0, u "Z"), (56, u "()Z"), (0, u "isWaiting")] 22

def k6c0 : Code := { maxStack := 1, maxLocals := 1, code := prog_30_method_5_code, exceptionTable := #[], attributes := #[] }
def k6m0 : Method := { name := "isFinal", desc := "()Z", sig := { parameters := [], returnType := some .boolean }, accessFlags := 0, code := some k6c0 }
def k6c1 : Code := { maxStack := 2, maxLocals := 1, code := prog_30_method_6_code, exceptionTable := #[], attributes := #[] }
def k6m1 : Method := { name := "isWaiting", desc := "()Z", sig := { parameters := [], returnType := some .boolean }, accessFlags := 0, code := some k6c1 }
/-- com/example/weighted_scheduler/weightedscheduler/JobState -/
def k6 : Class := { plain "com/example/weighted_scheduler/weightedscheduler/JobState" (some 5) with
  accessFlags := 16432
  interfaces := #[]
  cf := some (fileOf pool6 1 #[] #[{ accessFlags := 0, nameIndex := 53, descriptorIndex := 111, attributes := #[] }, { accessFlags := 0, nameIndex := 112, descriptorIndex := 111, attributes := #[] }] 16432 38 #[] #[{ accessFlags := 16409, nameIndex := 5, descriptorIndex := 6, attributes := #[] }, { accessFlags := 16409, nameIndex := 9, descriptorIndex := 6, attributes := #[] }, { accessFlags := 16409, nameIndex := 12, descriptorIndex := 6, attributes := #[] }, { accessFlags := 16409, nameIndex := 15, descriptorIndex := 6, attributes := #[] }, { accessFlags := 16409, nameIndex := 18, descriptorIndex := 6, attributes := #[] }, { accessFlags := 16409, nameIndex := 21, descriptorIndex := 6, attributes := #[] }, { accessFlags := 16409, nameIndex := 24, descriptorIndex := 6, attributes := #[] }, { accessFlags := 16409, nameIndex := 27, descriptorIndex := 6, attributes := #[] }, { accessFlags := 18, nameIndex := 49, descriptorIndex := 50, attributes := #[] }, { accessFlags := 18, nameIndex := 53, descriptorIndex := 54, attributes := #[] }, { accessFlags := 4122, nameIndex := 30, descriptorIndex := 31, attributes := #[] }])
  fields := #[{ name := "SCHEDULED", type := (.object "com/example/weighted_scheduler/weightedscheduler/JobState"), accessFlags := 16409, slot := 0, constantValue := 0 }, { name := "QUEUED", type := (.object "com/example/weighted_scheduler/weightedscheduler/JobState"), accessFlags := 16409, slot := 1, constantValue := 0 }, { name := "LEASED", type := (.object "com/example/weighted_scheduler/weightedscheduler/JobState"), accessFlags := 16409, slot := 2, constantValue := 0 }, { name := "SUCCEEDED", type := (.object "com/example/weighted_scheduler/weightedscheduler/JobState"), accessFlags := 16409, slot := 3, constantValue := 0 }, { name := "RETRY_SCHEDULED", type := (.object "com/example/weighted_scheduler/weightedscheduler/JobState"), accessFlags := 16409, slot := 4, constantValue := 0 }, { name := "DEAD", type := (.object "com/example/weighted_scheduler/weightedscheduler/JobState"), accessFlags := 16409, slot := 5, constantValue := 0 }, { name := "EXPIRED", type := (.object "com/example/weighted_scheduler/weightedscheduler/JobState"), accessFlags := 16409, slot := 6, constantValue := 0 }, { name := "CANCELLED", type := (.object "com/example/weighted_scheduler/weightedscheduler/JobState"), accessFlags := 16409, slot := 7, constantValue := 0 }, { name := "wireName", type := (.object "java/lang/String"), accessFlags := 18, slot := 3, constantValue := 0 }, { name := "isFinal", type := .boolean, accessFlags := 18, slot := 4, constantValue := 0 }, { name := "$VALUES", type := (.array (.object "com/example/weighted_scheduler/weightedscheduler/JobState")), accessFlags := 4122, slot := 8, constantValue := 0 }]
  methods := #[k6m0, k6m1]
  instanceTypes := #[(.object "java/lang/String"), .int, .int, (.object "java/lang/String"), .boolean]
  staticTypes := #[(.object "com/example/weighted_scheduler/weightedscheduler/JobState"), (.object "com/example/weighted_scheduler/weightedscheduler/JobState"), (.object "com/example/weighted_scheduler/weightedscheduler/JobState"), (.object "com/example/weighted_scheduler/weightedscheduler/JobState"), (.object "com/example/weighted_scheduler/weightedscheduler/JobState"), (.object "com/example/weighted_scheduler/weightedscheduler/JobState"), (.object "com/example/weighted_scheduler/weightedscheduler/JobState"), (.object "com/example/weighted_scheduler/weightedscheduler/JobState"), (.array (.object "com/example/weighted_scheduler/weightedscheduler/JobState"))]
  resolved := Array.replicate 135 none
  statics := some 0 }

def pool7 : Array CpInfo := pool [(1, u "java/lang/Cloneable"), (0, .class_ 1), (0, u "java/lang/Object"), (0, .class_ 3)] 3

/-- java/lang/Cloneable -/
def k7 : Class := { plain "java/lang/Cloneable" (some 0) with
  accessFlags := 1537
  interfaces := #[]
  cf := some (fileOf pool7 2 #[] #[] 1537 4 #[] #[])
  fields := #[]
  methods := #[]
  instanceTypes := #[]
  staticTypes := #[]
  resolved := Array.replicate 8 none
  statics := none }

/-- the primitive byte -/
def k8 : Class := { plain "byte" none with kind := .primitive 'B', accessFlags := 0x411 }
/-- [B -/
def k9 : Class := { plain "[B" (some 0) with kind := .array 8 .byte, interfaces := #[7, 4], accessFlags := 1041 }

/-- the primitive int -/
def k10 : Class := { plain "int" none with kind := .primitive 'I', accessFlags := 0x411 }
/-- [I -/
def k11 : Class := { plain "[I" (some 0) with kind := .array 10 .int, interfaces := #[7, 4], accessFlags := 1041 }

def heap : Heap := #[{ cls := 6, slots := #[.ref 1, .ref 3, .ref 7, .ref 2, .ref 4, .ref 8, .ref 5, .ref 6, .null], vm := .statics 6 },
  { cls := 6, slots := #[.null, .int 0, .int 0, .null, .int 0], vm := .none },
  { cls := 6, slots := #[.null, .int 3, .int 0, .null, .int 1], vm := .none },
  { cls := 6, slots := #[.null, .int 1, .int 0, .null, .int 0], vm := .none },
  { cls := 6, slots := #[.null, .int 4, .int 0, .null, .int 0], vm := .none },
  { cls := 6, slots := #[.null, .int 6, .int 0, .null, .int 1], vm := .none },
  { cls := 6, slots := #[.null, .int 7, .int 0, .null, .int 1], vm := .none },
  { cls := 6, slots := #[.null, .int 2, .int 0, .null, .int 0], vm := .none },
  { cls := 6, slots := #[.null, .int 5, .int 0, .null, .int 1], vm := .none }]
def classes : Array Class := #[k0, k1, k2, k3, k4, k5, k6, k7, k8, k9, k10, k11]
def interned : List (Array UInt16 × Addr) := []
def slotsUsed : Nat := 49
def theMethod : MethodId := ⟨1, 2⟩
def args0 : Array Value := #[.int 5]
def aboutOver (below : List Frame) : State where
  vm := { classes := classes, interned := interned.toArray }
  heap := heap
  slotsUsed := slotsUsed
  threads := #[{ frames := .invoking theMethod args0 :: below }]
def below0 : List Frame := [.native { method := ⟨0, 0⟩, args := #[] }]
def about1 : State := aboutOver below0
def p0 : Program := .bare "" "" ""
def e0 : Env := launch0.env 0 0 0
theorem w_frames : about1.frames = Frame.invoking theMethod args0 :: below0 := rfl
set_option maxRecDepth 65536 in
theorem w_args : argsFit about1.vm theMethod args0 = true := by decide +kernel
set_option maxRecDepth 65536 in
theorem w_heap : heapFits about1 = true := by decide +kernel
set_option maxRecDepth 65536 in
theorem w_runnable : about1.curStatus? = some .runnable := by decide +kernel
set_option maxRecDepth 65536 in
theorem w_alone : about1.alone = true := by decide +kernel
set_option maxRecDepth 65536 in
theorem w_named : about1.methodNamed? x = some theMethod := by decide +kernel
set_option maxRecDepth 65536 in
theorem w_hears : about1.hears theMethod below0 = true := by decide +kernel
set_option maxRecDepth 65536 in
theorem w_ripe : about1.ripe theMethod args0 below0 = true := by decide +kernel
theorem w_running : about1.status = .running := rfl
set_option maxRecDepth 65536 in
theorem w_room : about1.hasRoom e0.platform room_1 = true :=
  launch0.hasRoom_least _ room_1 (by decide +kernel) (by decide +kernel) (by decide +kernel) (by decide +kernel) (by decide +kernel) (by decide +kernel)
theorem allAtoms_all (ts : List Jvm.Cond) (a : Array Jvm.Value) (st : Jvm.State) : (allAtoms ts).before a st = ts.all (fun c => c.before a st) := by
  induction ts with
  | nil => rfl
  | cons c t ih =>
    show (Jvm.Cond.and c (allAtoms t)).before a st = _
    rw [Jvm.Cond.before_and, ih, List.all_cons]
def words1 : List Jvm.Cond := Jvm.Cond.code x code maxLocals ret :: tables_1
/-- a 'code' word, met by the world's own term for the bytes: nothing is compared byte by byte -/
theorem code_word {y : MethodName} {bytes : ByteArray} {mx : Nat} {rt : Option FieldType} {a : Array Value} {s : State} {m : MethodId} {meth : Method} {c : Code} (h1 : s.methodNamed? y = some m) (h2 : s.vm.method? m = some meth) (h3 : meth.code = some c) (h4 : c.code = bytes)
    (h5 : (c.maxLocals == mx && c.exceptionTable.isEmpty && decide (c.maxStack ≤ mostOperands) && decide (meth.sig.returnType = rt) && !meth.locks && decide (parseMethodDescriptor y.desc = some meth.sig)) = true) : (Jvm.Cond.code y bytes mx rt).before a s = true := by
  simp only [Bool.and_eq_true, beq_iff_eq, Bool.not_eq_true', decide_eq_true_eq] at h5
  obtain ⟨⟨⟨⟨⟨g1, g2⟩, g3⟩, g4⟩, g5⟩, g6⟩ := h5
  simp [Cond.before, Cond.holds, Cond.value, h1, h2, h3, h4, g1, g2, g3, g4, g5, g6]
def isCode : Jvm.Cond → Bool
  | .code _ _ _ _ => true
  | _ => false
theorem all_split {L : List Jvm.Cond} {P : Jvm.Cond → Bool} (h1 : L.all (fun c => isCode c || P c) = true) (h2 : ∀ c ∈ L.filter isCode, P c = true) : L.all P = true := by
  refine List.all_eq_true.mpr fun c hc => ?_
  have h := List.all_eq_true.mp h1 c hc
  rcases Bool.eq_false_or_eq_true (isCode c) with hi | hi
  · exact h2 c (List.mem_filter.mpr ⟨hc, hi⟩)
  · simpa [hi] using h
set_option maxRecDepth 65536 in
theorem w_c0 : (Jvm.Cond.code x code maxLocals ret).before args0 about1 = true := code_word (m := ⟨1, 2⟩) (meth := k1m2) (c := k1c2) (by decide +kernel) rfl rfl rfl (by decide +kernel)
set_option maxRecDepth 65536 in
theorem w_c1 : (Jvm.Cond.code ({ cls := "com/example/weighted_scheduler/weightedscheduler/JobStateIsWaitingPinLaw", name := "pick", desc := "(I)Lcom/example/weighted_scheduler/weightedscheduler/JobState;" } : Jvm.MethodName) method_2_code (1 : Nat) (Option.some (Jvm.ClassFile.FieldType.object "com/example/weighted_scheduler/weightedscheduler/JobState"))).before args0 about1 = true := code_word (m := ⟨1, 1⟩) (meth := k1m1) (c := k1c1) (by decide +kernel) rfl rfl rfl (by decide +kernel)
set_option maxRecDepth 65536 in
theorem w_c2 : (Jvm.Cond.code ({ cls := "com/example/weighted_scheduler/weightedscheduler/JobState", name := "isWaiting", desc := "()Z" } : Jvm.MethodName) prog_30_method_6_code (1 : Nat) (Option.some Jvm.ClassFile.FieldType.boolean)).before args0 about1 = true := code_word (m := ⟨6, 1⟩) (meth := k6m1) (c := k6c1) (by decide +kernel) rfl rfl rfl (by decide +kernel)
set_option maxRecDepth 65536 in
theorem w_c3 : (Jvm.Cond.code ({ cls := "com/example/weighted_scheduler/weightedscheduler/JobState", name := "isFinal", desc := "()Z" } : Jvm.MethodName) prog_30_method_5_code (1 : Nat) (Option.some Jvm.ClassFile.FieldType.boolean)).before args0 about1 = true := code_word (m := ⟨6, 0⟩) (meth := k6m0) (c := k6c0) (by decide +kernel) rfl rfl rfl (by decide +kernel)
def codes1 : List Jvm.Cond := [Jvm.Cond.code x code maxLocals ret, Jvm.Cond.code ({ cls := "com/example/weighted_scheduler/weightedscheduler/JobStateIsWaitingPinLaw", name := "pick", desc := "(I)Lcom/example/weighted_scheduler/weightedscheduler/JobState;" } : Jvm.MethodName) method_2_code (1 : Nat) (Option.some (Jvm.ClassFile.FieldType.object "com/example/weighted_scheduler/weightedscheduler/JobState")), Jvm.Cond.code ({ cls := "com/example/weighted_scheduler/weightedscheduler/JobState", name := "isWaiting", desc := "()Z" } : Jvm.MethodName) prog_30_method_6_code (1 : Nat) (Option.some Jvm.ClassFile.FieldType.boolean), Jvm.Cond.code ({ cls := "com/example/weighted_scheduler/weightedscheduler/JobState", name := "isFinal", desc := "()Z" } : Jvm.MethodName) prog_30_method_5_code (1 : Nat) (Option.some Jvm.ClassFile.FieldType.boolean)]
set_option maxRecDepth 65536 in
theorem codes_eq : words1.filter isCode = codes1 := rfl
theorem w_codes : ∀ c ∈ words1.filter isCode, c.before args0 about1 = true := by
  rw [codes_eq]
  intro c hc
  simp only [codes1, List.mem_cons, List.not_mem_nil, or_false] at hc
  rcases hc with rfl | rfl | rfl | rfl
  · exact w_c0
  · exact w_c1
  · exact w_c2
  · exact w_c3
set_option maxRecDepth 65536 in
theorem w_t1 : (words1.take 24).all (fun c => isCode c || c.before args0 about1) = true := by decide +kernel
set_option maxRecDepth 65536 in
theorem w_t2 : (words1.drop 24).all (fun c => isCode c || c.before args0 about1) = true := by decide +kernel
theorem w_tables : (allAtoms (Jvm.Cond.code x code maxLocals ret :: tables_1)).before args0 about1 = true := by
  rw [allAtoms_all]
  show words1.all (fun c => c.before args0 about1) = true
  refine all_split ?_ w_codes
  rw [← List.take_append_drop 24 words1, List.all_append, w_t1, w_t2]
  rfl
set_option maxRecDepth 65536 in
theorem w_case : (Jvm.Cond.and given_1 narrow_1).before args0 about1 = true := by decide +kernel
theorem w_applies : (headSpec (Jvm.Cond.code x code maxLocals ret :: tables_1) room_1).applies x e0.platform about1 = true :=
  (Spec.applies_iff w_frames).mpr ⟨w_running, w_runnable, w_alone, w_named, w_hears, w_ripe, w_room, w_tables⟩
theorem atStart : AtStart classFile x code maxLocals ret World_1 tables_1 room_1 Calls_1 rest_1 Pre_1 launch0 p0 e0 about1 theMethod args0 below0 :=
  ⟨lists_1, trivial, launch0.admits_env _ _ _, launch0.least_env, fairChoices_fair.cas, fairChoices_fair.clock, w_frames, w_args, w_heap, w_applies, trivial, trivial, w_case⟩
end start1
theorem witness_1 : WitnessClaimed_1 := ⟨start1.p0, start1.e0, start1.about1, start1.theMethod, start1.args0, start1.below0, start1.atStart⟩
end Jvm.Pilot.@@N@@
