import JvmDerived
import JvmDerived.Pilot.@@N@@Statement
import JvmDerived.Pilot.@@N@@Code
set_option linter.unusedVariables false
set_option linter.unusedSimpArgs false
@@BLOCK:NumsL.lean.txt@@
namespace Jvm.Pilot.@@N@@
open Jvm Jvm.ClassFile Sem Op Lib Jvm.Free Jvm.Stand Jvm.LawKit Jvm.RoadKit Bundle Jvm.Pilot.@@N@@.Jvm.D
/-- two roads that come together: the rest is shown once, for every state and value with which they come -/
theorem own_join {p : Program} {l : Launch} {e : Env} {R : Room} {s : State} {m : MethodId} {args : Array Value} {below : List Frame} {meth : Method} {c : Code} {T : State} {locs : List Loc} {cells slots : Nat} {A : State} {P : State → Outcome → Prop}
    (X : Stand p l e R s m args below meth c T locs cells slots) {ι : Type} (Φ : ι → State → Prop) (B : ι → JFrame)
    (rest : ∀ i T', Stand p l e R s m args below meth c T' locs cells slots → Φ i T' → ∃ s₂ o, Steps p.tables e below (T'.setTop (B i)) s₂ ∧ P s₂ o)
    (come : (∀ i T', Stand p l e R s m args below meth c T' locs cells slots → Φ i T' → ∃ s₂ o, Steps p.tables e below (T'.setTop (B i)) s₂ ∧ P s₂ o) → ∃ s₂ o, Steps p.tables e below A s₂ ∧ P s₂ o) : ∃ s₂ o, Steps p.tables e below A s₂ ∧ P s₂ o := come rest
theorem own_joinH {p : Program} {l : Launch} {e : Env} {R : Room} {s : State} {m : MethodId} {args : Array Value} {below : List Frame} {meth : Method} {c : Code} {T : State} {locs : List Loc} {cells slots n0 : Nat} {A : State} {P : State → Outcome → Prop}
    (X : Stand p l e R s m args below meth c T locs cells slots) (N : Fr n0 locs) {ι : Type} (cells' slots' : Nat) (Φ : ι → Heap → Prop) (B : ι → JFrame)
    (rest : ∀ i T' locs', Stand p l e R s m args below meth c T' locs' cells' slots' → Fr n0 locs' → Φ i T'.heap → ∃ s₂ o, Steps p.tables e below (T'.setTop (B i)) s₂ ∧ P s₂ o)
    (come : (∀ i T' locs', Stand p l e R s m args below meth c T' locs' cells' slots' → Fr n0 locs' → Φ i T'.heap → ∃ s₂ o, Steps p.tables e below (T'.setTop (B i)) s₂ ∧ P s₂ o) → ∃ s₂ o, Steps p.tables e below A s₂ ∧ P s₂ o) : ∃ s₂ o, Steps p.tables e below A s₂ ∧ P s₂ o := come rest
theorem own_mono {p : Program} {l : Launch} {e : Env} {R : Room} {s : State} {m : MethodId} {args : Array Value} {below : List Frame} {meth : Method} {c : Code} {T : State} {locs : List Loc} {cells slots cells' slots' : Nat}
    (X : Stand p l e R s m args below meth c T locs cells slots) (h1 : cells ≤ cells') (h2 : slots ≤ slots') : Stand p l e R s m args below meth c T locs cells' slots' := { X with same := X.same.mono h1 h2 }
theorem own_sta_keep {Z : State} {h h' : Heap} {C n d : String} {v : Value} {ws : List Addr} (F : Sta Z h C n d v) (K : Keep h h' ws) (q : ∀ x ∈ ws, ∀ c : Cell, h[x]? = some c → c.vm.isStatics = false) : Sta Z h' C n d v := by
  obtain ⟨cf, i, k, f, st, cell, h1, h2, h3, h4, h5, h6, h7⟩ := F
  refine ⟨cf, i, k, f, st, cell, h1, h2, h3, h4, K.2.1 st cell h5 fun hm => ?_, h6, h7⟩
  rw [q st hm cell h5] at h6
  cases h6
theorem own_plain_E {Z : State} {h : Heap} {a : Addr} {C : String} (F : Exa Z h a C) : ∀ c : Cell, h[a]? = some c → c.vm.isStatics = false := by
  obtain ⟨cell, k, h1, h2, h3, h4, h5⟩ := F
  intro c hc
  cases h1.symm.trans hc
  exact h4
theorem own_plain_V {Z : State} {h : Heap} {a : Addr} {k : ClassId} {ty : FieldType} {n : Int32} {vs : List Value} {d : Value} (F : Arv Z h a k ty n vs d) : ∀ c : Cell, h[a]? = some c → c.vm.isStatics = false := by
  obtain ⟨cell, A, -⟩ := F
  intro c hc
  cases A.1.symm.trans hc
  exact A.plain
/-- a stretch of the road, then the rest -/
theorem own_go {tb : Tables} {e : Env} {below : List Frame} {A B : State} {P : State → Outcome → Prop} (h : ∀ t, Steps tb e below B t → Steps tb e below A t) (k : ∃ s₂ o, Steps tb e below B s₂ ∧ P s₂ o) : ∃ s₂ o, Steps tb e below A s₂ ∧ P s₂ o := by
  obtain ⟨s₂, o, h1, h2⟩ := k
  exact ⟨s₂, o, h s₂ h1, h2⟩
theorem own_eqI {args : Array Value} {first s : State} {o : Option Outcome} {idx : List Nat} {t : Term} {k : Int32} (h : (Jvm.Cond.eq t (.int k)).value args first o s idx = some true) : t.eval args first o idx s = some (.int k) := by
  simp only [Jvm.Cond.value, Term.eval] at h
  cases ht : t.eval args first o idx s with
  | none => simp [ht] at h
  | some x => cases x <;> simp [ht] at h ⊢; exact h
theorem own_eqJ {args : Array Value} {first s : State} {o : Option Outcome} {idx : List Nat} {t : Term} {k : Int64} (h : (Jvm.Cond.eq t (.long k)).value args first o s idx = some true) : t.eval args first o idx s = some (.long k) := by
  simp only [Jvm.Cond.value, Term.eval] at h
  cases ht : t.eval args first o idx s with
  | none => simp [ht] at h
  | some x => cases x <;> simp [ht] at h ⊢; exact h
theorem own_eqR {args : Array Value} {first s : State} {o : Option Outcome} {idx : List Nat} {t u : Term} {a : Addr} (h : (Jvm.Cond.eq t u).value args first o s idx = some true) (hu : u.eval args first o idx s = some (.ref a)) : t.eval args first o idx s = some (.ref a) := by
  simp only [Jvm.Cond.value] at h
  cases ht : t.eval args first o idx s with
  | none => simp [ht] at h
  | some x => cases x <;> simp [ht, hu] at h ⊢; exact h
theorem own_mod6 (x : Int32) : (x &&& (2147483647 : Int32)) % (6 : Int32) = (0 : Int32) ∨ (x &&& (2147483647 : Int32)) % (6 : Int32) = (1 : Int32) ∨ (x &&& (2147483647 : Int32)) % (6 : Int32) = (2 : Int32) ∨ (x &&& (2147483647 : Int32)) % (6 : Int32) = (3 : Int32) ∨ (x &&& (2147483647 : Int32)) % (6 : Int32) = (4 : Int32) ∨ (x &&& (2147483647 : Int32)) % (6 : Int32) = (5 : Int32) := by
  have hm : (x &&& (2147483647 : Int32)).toInt = x.toInt % 2 ^ 31 := Jvm.Kit.i32_mask x 2147483647 (k := 31) (by decide) (by decide)
  have h : ((x &&& (2147483647 : Int32)) % (6 : Int32)).toInt = (x.toInt % 2 ^ 31) % 6 := by
    rw [Int32.toInt_mod, hm]
    exact Int.tmod_eq_emod_of_nonneg (by omega)
  simp only [← Int32.toInt_inj, h, Int32.reduceToInt]
  omega
theorem own_dow1 {x : Int32} (h1 : ¬ (x < (0 : Int32))) (h2 : ¬ ((7 : Int32) < x)) : (if x = (7 : Int32) then (0 : Int32) else x) = (x % (7 : Int32)) := by
  simp only [Int32.lt_iff_toInt_lt, Int32.reduceToInt] at h1 h2
  have hm : (x % (7 : Int32)).toInt = x.toInt % 7 := by
    rw [Int32.toInt_mod]
    exact Int.tmod_eq_emod_of_nonneg (by omega)
  by_cases h : x = 7
  · subst h; decide
  · rw [if_neg h, ← Int32.toInt_inj, hm]
    rw [← Int32.toInt_inj] at h
    simp only [Int32.reduceToInt] at h
    omega
theorem own_dow2 {x : Int32} (h : x < (0 : Int32)) : (if x = (7 : Int32) then (0 : Int32) else x) = x := if_neg fun q => by subst q; exact absurd h (by decide)
theorem own_dow3 {x : Int32} (h : (7 : Int32) < x) : (if x = (7 : Int32) then (0 : Int32) else x) = x := if_neg fun q => by subst q; exact absurd h (by decide)
theorem own_dow4 (x : Int32) : (if (if x = (7 : Int32) then (0 : Int32) else x) = (7 : Int32) then (0 : Int32) else (if x = (7 : Int32) then (0 : Int32) else x)) = (if x = (7 : Int32) then (0 : Int32) else x) := by
  by_cases h : x = 7
  · subst h; decide
  · rw [if_neg h, if_neg h]
theorem ef_1 (m : MethodId) (r0 : Addr) : entryFrame m #[(.ref r0)] 1 = mkF m 0 #[.val (.ref r0)] [] := by first | (simp [entryFrame, mkF, argsToLocals, Value.category]; done) | rfl
theorem pn_1 : plainName "com/example/murray_hill/murrayhill/cron/CronField" = true := by first | (simp [plainName, overriddenIn]; done) | decide +kernel
abbrev LS_R (a0 : Addr) : Array Slot := #[.val (.ref a0)]
theorem d1_0 : decode prog_5_method_5_code 0 = .ok (.aload_n 0, 1) := by decide +kernel
theorem d1_1 : decode prog_5_method_5_code 1 = .ok (.getfield 45, 3) := by decide +kernel
theorem d1_4 : decode prog_5_method_5_code 4 = .ok (.ireturn, 1) := by decide +kernel
def Q1 (Z : State) (r0 : Addr) (p1 : Int32) (h0 : Heap) (n0 : Nat) (v : Option Value) (h : Heap) (L : List Loc) : Prop := v = some (.int p1) ∧ Fr n0 L ∧ h = h0
set_option maxRecDepth 65536 in
set_option maxHeartbeats 40000000 in
theorem rm1 (l : Launch) (Z : State) (a0 : Array Value) (hw : ∀ d ∈ tables_1, d.before a0 Z = true) (ws : List Jvm.Cond) (r0 : Addr) (p1 : Int32) (h0 : Heap) (n0 : Nat) (Z0 : n0 ≤ h0.size) (F0 : Fld Z h0 r0 "com/example/murray_hill/murrayhill/cron/CronField" "min" "I" (.int p1)) :
    MetFree l (⟨"com/example/murray_hill/murrayhill/cron/CronField", "min", "()I"⟩ : MethodName) (head1 (Jvm.Cond.code (⟨"com/example/murray_hill/murrayhill/cron/CronField", "min", "()I"⟩ : MethodName) prog_5_method_5_code 1 (some .int) :: ws) ({ frames := 0, cells := 0, slots := 0, locals := 0 } : Room)) (fun a U => a = #[(.ref r0)] ∧ Z.Warmed39 U.vm ∧ U.heap = h0) (fun _ _ _ _ _ => True) (fun _ U o U' => ∃ v L, o = .returned v ∧ Q1 Z r0 p1 h0 n0 v U'.heap L ∧ FrameEnd U o U' L ({ frames := 0, cells := 0, slots := 0, locals := 0 } : Room).cells ({ frames := 0, cells := 0, slots := 0, locals := 0 } : Room).slots) := by
  refine MetFree.of_bodySF (plainFor_of_name pn_1) hisR ?_
  intro p e s m args below meth c s₁ Bd hml0 hP hK
  obtain ⟨rfl, hZ, hh⟩ := hP
  have hx := Bd.exec
  have hby := Bd.bytes
  have hml : c.maxLocals = 1 := hml0
  have hown : s.vm.findClass "com/example/murray_hill/murrayhill/cron/CronField" = some m.cls := findClass_of_methodNamed Bd.named
  have hnm := (name_of_methodNamed Bd.named Bd.method).1
  have X0 : Stand p l e ({ frames := 0, cells := 0, slots := 0, locals := 0 } : Room) s m #[(.ref r0)] below meth c s₁ [] 0 0 := Stand.of_body Bd
  have e0 : s₁.heap = h0 := by rw [← hh, Bd.state]; rfl
  have N0 := Fr.nil n0
  refine own_go (B := s₁.setTop (mkF m 0 (LS_R r0) [])) (fun t k => castTop (ef_1 m r0) k) ?_
  refine own_go (B := s₁.setTop (mkF m 1 (LS_R r0) [(.ref r0)])) (fun t k => ?_) ?_
  · show Steps p.tables e below (s₁.setTop (mkF m 0 (LS_R r0) [])) _
    refine XS.aloadN X0.here hx rfl (hb hby d1_0) rfl rfl ?_
    exact k
  obtain ⟨T1, X1, e1, st1⟩ := getF X0 hx hZ hown (host := "") (Or.inl (hw _ (List.mem_of_getElem? (i := 22) rfl))) Via.refl e0 F0 (g := (mkF m 1 (LS_R r0) [(.ref r0)])) rfl rfl (hb hby d1_1)
  refine own_go (B := T1.setTop (mkF m 4 (LS_R r0) [(.int p1)])) (fun t k => st1 _ k) ?_
  obtain ⟨fs, hr, hrun, hended, hW, hsame⟩ := X1.leave (v := some (.int p1)) (fun h => by rw [Bd.returns] at h; cases h)
  refine ⟨_, _, ?_, hrun, hended, _, _, rfl, ?_, ⟨_, rfl⟩, hW, hsame.mono (by decide) (by decide)⟩
  · show Steps p.tables e below (T1.setTop (mkF m 4 (LS_R r0) [(.int p1)])) _
    exact retOut X1 hx Bd.returns rfl (Or.inl ⟨rfl, Or.inl rfl, _, rfl⟩) (hb hby d1_4) hr
  · show Q1 Z r0 p1 h0 n0 _ T1.heap _
    rw [e1]
    exact ⟨rfl, N0, rfl⟩
theorem ef_2 (m : MethodId) (r0 : Addr) : entryFrame m #[(.ref r0)] 1 = mkF m 0 #[.val (.ref r0)] [] := by first | (simp [entryFrame, mkF, argsToLocals, Value.category]; done) | rfl
theorem pn_2 : plainName "com/example/murray_hill/murrayhill/cron/CronField" = true := by first | (simp [plainName, overriddenIn]; done) | decide +kernel
theorem d2_0 : decode prog_5_method_6_code 0 = .ok (.aload_n 0, 1) := by decide +kernel
theorem d2_1 : decode prog_5_method_6_code 1 = .ok (.getfield 49, 3) := by decide +kernel
theorem d2_4 : decode prog_5_method_6_code 4 = .ok (.ireturn, 1) := by decide +kernel
def Q2 (Z : State) (r0 : Addr) (p1 : Int32) (h0 : Heap) (n0 : Nat) (v : Option Value) (h : Heap) (L : List Loc) : Prop := v = some (.int p1) ∧ Fr n0 L ∧ h = h0
set_option maxRecDepth 65536 in
set_option maxHeartbeats 40000000 in
theorem rm2 (l : Launch) (Z : State) (a0 : Array Value) (hw : ∀ d ∈ tables_1, d.before a0 Z = true) (ws : List Jvm.Cond) (r0 : Addr) (p1 : Int32) (h0 : Heap) (n0 : Nat) (Z0 : n0 ≤ h0.size) (F0 : Fld Z h0 r0 "com/example/murray_hill/murrayhill/cron/CronField" "max" "I" (.int p1)) :
    MetFree l (⟨"com/example/murray_hill/murrayhill/cron/CronField", "max", "()I"⟩ : MethodName) (head1 (Jvm.Cond.code (⟨"com/example/murray_hill/murrayhill/cron/CronField", "max", "()I"⟩ : MethodName) prog_5_method_6_code 1 (some .int) :: ws) ({ frames := 0, cells := 0, slots := 0, locals := 0 } : Room)) (fun a U => a = #[(.ref r0)] ∧ Z.Warmed39 U.vm ∧ U.heap = h0) (fun _ _ _ _ _ => True) (fun _ U o U' => ∃ v L, o = .returned v ∧ Q2 Z r0 p1 h0 n0 v U'.heap L ∧ FrameEnd U o U' L ({ frames := 0, cells := 0, slots := 0, locals := 0 } : Room).cells ({ frames := 0, cells := 0, slots := 0, locals := 0 } : Room).slots) := by
  refine MetFree.of_bodySF (plainFor_of_name pn_2) hisR ?_
  intro p e s m args below meth c s₁ Bd hml0 hP hK
  obtain ⟨rfl, hZ, hh⟩ := hP
  have hx := Bd.exec
  have hby := Bd.bytes
  have hml : c.maxLocals = 1 := hml0
  have hown : s.vm.findClass "com/example/murray_hill/murrayhill/cron/CronField" = some m.cls := findClass_of_methodNamed Bd.named
  have hnm := (name_of_methodNamed Bd.named Bd.method).1
  have X0 : Stand p l e ({ frames := 0, cells := 0, slots := 0, locals := 0 } : Room) s m #[(.ref r0)] below meth c s₁ [] 0 0 := Stand.of_body Bd
  have e0 : s₁.heap = h0 := by rw [← hh, Bd.state]; rfl
  have N0 := Fr.nil n0
  refine own_go (B := s₁.setTop (mkF m 0 (LS_R r0) [])) (fun t k => castTop (ef_2 m r0) k) ?_
  refine own_go (B := s₁.setTop (mkF m 1 (LS_R r0) [(.ref r0)])) (fun t k => ?_) ?_
  · show Steps p.tables e below (s₁.setTop (mkF m 0 (LS_R r0) [])) _
    refine XS.aloadN X0.here hx rfl (hb hby d2_0) rfl rfl ?_
    exact k
  obtain ⟨T1, X1, e1, st1⟩ := getF X0 hx hZ hown (host := "") (Or.inl (hw _ (List.mem_of_getElem? (i := 29) rfl))) Via.refl e0 F0 (g := (mkF m 1 (LS_R r0) [(.ref r0)])) rfl rfl (hb hby d2_1)
  refine own_go (B := T1.setTop (mkF m 4 (LS_R r0) [(.int p1)])) (fun t k => st1 _ k) ?_
  obtain ⟨fs, hr, hrun, hended, hW, hsame⟩ := X1.leave (v := some (.int p1)) (fun h => by rw [Bd.returns] at h; cases h)
  refine ⟨_, _, ?_, hrun, hended, _, _, rfl, ?_, ⟨_, rfl⟩, hW, hsame.mono (by decide) (by decide)⟩
  · show Steps p.tables e below (T1.setTop (mkF m 4 (LS_R r0) [(.int p1)])) _
    exact retOut X1 hx Bd.returns rfl (Or.inl ⟨rfl, Or.inl rfl, _, rfl⟩) (hb hby d2_4) hr
  · show Q2 Z r0 p1 h0 n0 _ T1.heap _
    rw [e1]
    exact ⟨rfl, N0, rfl⟩
theorem ef_3 (m : MethodId) (r0 : Addr) (p1 : Int32) : entryFrame m #[(.ref r0), (.int p1)] 3 = mkF m 0 #[.val (.ref r0), .val (.int p1), .unset] [] := by first | (simp [entryFrame, mkF, argsToLocals, Value.category]; done) | rfl
theorem pn_3 : plainName "com/example/murray_hill/murrayhill/cron/CronField" = true := by first | (simp [plainName, overriddenIn]; done) | decide +kernel
abbrev LS_RIu (a0 : Addr) (a1 : Int32) : Array Slot := #[.val (.ref a0), .val (.int a1), .unset]
theorem d3_0 : decode prog_5_method_9_code 0 = .ok (.iload_n 1, 1) := by decide +kernel
theorem d3_1 : decode prog_5_method_9_code 1 = .ok (.istore_n 2, 1) := by decide +kernel
abbrev LS_RII (a0 : Addr) (a1 : Int32) (a2 : Int32) : Array Slot := #[.val (.ref a0), .val (.int a1), .val (.int a2)]
theorem d3_2 : decode prog_5_method_9_code 2 = .ok (.aload_n 0, 1) := by decide +kernel
theorem d3_3 : decode prog_5_method_9_code 3 = .ok (.getstatic 19, 3) := by decide +kernel
theorem d3_6 : decode prog_5_method_9_code 6 = .ok (.if_acmp .ne 11, 3) := by decide +kernel
theorem d3_9 : decode prog_5_method_9_code 9 = .ok (.iload_n 1, 1) := by decide +kernel
theorem d3_10 : decode prog_5_method_9_code 10 = .ok (.bipush 7, 2) := by decide +kernel
theorem d3_12 : decode prog_5_method_9_code 12 = .ok (.if_icmp .ne 5, 3) := by decide +kernel
theorem d3_15 : decode prog_5_method_9_code 15 = .ok (.iconst 0, 1) := by decide +kernel
theorem d3_16 : decode prog_5_method_9_code 16 = .ok (.istore_n 2, 1) := by decide +kernel
theorem d3_17 : decode prog_5_method_9_code 17 = .ok (.iload_n 2, 1) := by decide +kernel
theorem d3_18 : decode prog_5_method_9_code 18 = .ok (.ireturn, 1) := by decide +kernel
def Q3 (Z : State) (r0 : Addr) (p1 : Int32) (wD : Addr) (h0 : Heap) (n0 : Nat) (v : Option Value) (h : Heap) (L : List Loc) : Prop := v = some (.int (if r0 = wD then (if p1 = (7 : Int32) then (0 : Int32) else p1) else p1)) ∧ Fr n0 L ∧ h = h0
set_option maxRecDepth 65536 in
set_option maxHeartbeats 40000000 in
theorem rm3 (l : Launch) (Z : State) (a0 : Array Value) (hw : ∀ d ∈ tables_1, d.before a0 Z = true) (ws : List Jvm.Cond) (r0 : Addr) (p1 : Int32) (wD : Addr) (h0 : Heap) (n0 : Nat) (Z0 : n0 ≤ h0.size) (S0 : Sta Z h0 "com/example/murray_hill/murrayhill/cron/CronField" "DAY_OF_WEEK" "Lcom/example/murray_hill/murrayhill/cron/CronField;" (.ref wD)) :
    MetFree l (⟨"com/example/murray_hill/murrayhill/cron/CronField", "canonical", "(I)I"⟩ : MethodName) (head1 (Jvm.Cond.code (⟨"com/example/murray_hill/murrayhill/cron/CronField", "canonical", "(I)I"⟩ : MethodName) prog_5_method_9_code 3 (some .int) :: ws) ({ frames := 0, cells := 0, slots := 0, locals := 0 } : Room)) (fun a U => a = #[(.ref r0), (.int p1)] ∧ Z.Warmed39 U.vm ∧ U.heap = h0) (fun _ _ _ _ _ => True) (fun _ U o U' => ∃ v L, o = .returned v ∧ Q3 Z r0 p1 wD h0 n0 v U'.heap L ∧ FrameEnd U o U' L ({ frames := 0, cells := 0, slots := 0, locals := 0 } : Room).cells ({ frames := 0, cells := 0, slots := 0, locals := 0 } : Room).slots) := by
  refine MetFree.of_bodySF (plainFor_of_name pn_3) hisR ?_
  intro p e s m args below meth c s₁ Bd hml0 hP hK
  obtain ⟨rfl, hZ, hh⟩ := hP
  have hx := Bd.exec
  have hby := Bd.bytes
  have hml : c.maxLocals = 3 := hml0
  have hown : s.vm.findClass "com/example/murray_hill/murrayhill/cron/CronField" = some m.cls := findClass_of_methodNamed Bd.named
  have hnm := (name_of_methodNamed Bd.named Bd.method).1
  have X0 : Stand p l e ({ frames := 0, cells := 0, slots := 0, locals := 0 } : Room) s m #[(.ref r0), (.int p1)] below meth c s₁ [] 0 0 := Stand.of_body Bd
  have e0 : s₁.heap = h0 := by rw [← hh, Bd.state]; rfl
  have N0 := Fr.nil n0
  refine own_go (B := s₁.setTop (mkF m 0 (LS_RIu r0 p1) [])) (fun t k => castTop (ef_3 m r0 p1) k) ?_
  refine own_go (B := s₁.setTop (mkF m 3 (LS_RII r0 p1 p1) [(.ref r0)])) (fun t k => ?_) ?_
  · show Steps p.tables e below (s₁.setTop (mkF m 0 (LS_RIu r0 p1) [])) _
    refine XS.iloadN X0.here hx rfl (hb hby d3_0) rfl ?_
    show Steps p.tables e below (s₁.setTop (mkF m 1 (LS_RIu r0 p1) [(.int p1)])) _
    refine XS.istoreN X0.here hx rfl (hb hby d3_1) rfl (l' := (LS_RII r0 p1 p1)) rfl ?_
    show Steps p.tables e below (s₁.setTop (mkF m 2 (LS_RII r0 p1 p1) [])) _
    refine XS.aloadN X0.here hx rfl (hb hby d3_2) rfl rfl ?_
    exact k
  obtain ⟨T1, X1, e1, st1⟩ := getS2 X0 hx hZ hown (host := "") (Or.inl (hw _ (List.mem_of_getElem? (i := 36) rfl))) Via.refl e0 S0 (g := (mkF m 3 (LS_RII r0 p1 p1) [(.ref r0)])) rfl (hb hby d3_3)
  refine own_go (B := T1.setTop (mkF m 6 (LS_RII r0 p1 p1) [(.ref wD), (.ref r0)])) (fun t k => st1 _ k) ?_
  by_cases hc6_2 : r0 = wD
  · refine own_go (B := T1.setTop (mkF m 12 (LS_RII r0 p1 p1) [(.int (7 : Int32)), (.int p1)])) (fun t k => ?_) ?_
    · show Steps p.tables e below (T1.setTop (mkF m 6 (LS_RII r0 p1 p1) [(.ref wD), (.ref r0)])) _
      refine Jvm.RoadKit.acmp (g := (mkF m 6 (LS_RII r0 p1 p1) [(.ref wD), (.ref r0)])) X1 hx rfl rfl rfl (pc0 := 6) (pc' := 9) (same := true) rfl (hb hby d3_6) rfl (decide_eq_true (congrArg Value.ref hc6_2)) (by decide) (by decide) ?_
      show Steps p.tables e below (T1.setTop (mkF m 9 (LS_RII r0 p1 p1) [])) _
      refine XS.iloadN X1.here hx rfl (hb hby d3_9) rfl ?_
      show Steps p.tables e below (T1.setTop (mkF m 10 (LS_RII r0 p1 p1) [(.int p1)])) _
      refine XS.bipush X1.here hx rfl (hb hby d3_10) ?_
      exact k
    by_cases hc12_3 : p1 = (7 : Int32)
    · refine own_go (B := T1.setTop (mkF m 18 (LS_RII r0 p1 (0 : Int32)) [(.int (0 : Int32))])) (fun t k => ?_) ?_
      · show Steps p.tables e below (T1.setTop (mkF m 12 (LS_RII r0 p1 p1) [(.int (7 : Int32)), (.int p1)])) _
        refine XS.icmpNo X1.here hx rfl (hb hby d3_12) rfl (teq hc12_3).2 ?_
        show Steps p.tables e below (T1.setTop (mkF m 15 (LS_RII r0 p1 p1) [])) _
        refine XS.iconst X1.here hx rfl (hb hby d3_15) ?_
        show Steps p.tables e below (T1.setTop (mkF m 16 (LS_RII r0 p1 p1) [(.int (0 : Int32))])) _
        refine XS.istoreN X1.here hx rfl (hb hby d3_16) rfl (l' := (LS_RII r0 p1 (0 : Int32))) rfl ?_
        show Steps p.tables e below (T1.setTop (mkF m 17 (LS_RII r0 p1 (0 : Int32)) [])) _
        refine XS.iloadN X1.here hx rfl (hb hby d3_17) rfl ?_
        exact k
      obtain ⟨fs, hr, hrun, hended, hW, hsame⟩ := X1.leave (v := some (.int (0 : Int32))) (fun h => by rw [Bd.returns] at h; cases h)
      refine ⟨_, _, ?_, hrun, hended, _, _, rfl, ?_, ⟨_, rfl⟩, hW, hsame.mono (by decide) (by decide)⟩
      · show Steps p.tables e below (T1.setTop (mkF m 18 (LS_RII r0 p1 (0 : Int32)) [(.int (0 : Int32))])) _
        exact retOut X1 hx Bd.returns rfl (Or.inl ⟨rfl, Or.inl rfl, _, rfl⟩) (hb hby d3_18) hr
      · show Q3 Z r0 p1 wD h0 n0 _ T1.heap _
        rw [e1]
        exact ⟨by rw [if_pos hc6_2, if_pos hc12_3], N0, rfl⟩
    · refine own_go (B := T1.setTop (mkF m 18 (LS_RII r0 p1 p1) [(.int p1)])) (fun t k => ?_) ?_
      · show Steps p.tables e below (T1.setTop (mkF m 12 (LS_RII r0 p1 p1) [(.int (7 : Int32)), (.int p1)])) _
        refine XS.icmpYes X1.here hx rfl (pc0 := 12) (pc' := 17) rfl (hb hby d3_12) rfl (feq hc12_3).2 (by decide) (by decide) ?_
        show Steps p.tables e below (T1.setTop (mkF m 17 (LS_RII r0 p1 p1) [])) _
        refine XS.iloadN X1.here hx rfl (hb hby d3_17) rfl ?_
        exact k
      obtain ⟨fs, hr, hrun, hended, hW, hsame⟩ := X1.leave (v := some (.int p1)) (fun h => by rw [Bd.returns] at h; cases h)
      refine ⟨_, _, ?_, hrun, hended, _, _, rfl, ?_, ⟨_, rfl⟩, hW, hsame.mono (by decide) (by decide)⟩
      · show Steps p.tables e below (T1.setTop (mkF m 18 (LS_RII r0 p1 p1) [(.int p1)])) _
        exact retOut X1 hx Bd.returns rfl (Or.inl ⟨rfl, Or.inl rfl, _, rfl⟩) (hb hby d3_18) hr
      · show Q3 Z r0 p1 wD h0 n0 _ T1.heap _
        rw [e1]
        exact ⟨by rw [if_pos hc6_2, if_neg hc12_3], N0, rfl⟩
  · refine own_go (B := T1.setTop (mkF m 18 (LS_RII r0 p1 p1) [(.int p1)])) (fun t k => ?_) ?_
    · show Steps p.tables e below (T1.setTop (mkF m 6 (LS_RII r0 p1 p1) [(.ref wD), (.ref r0)])) _
      refine Jvm.RoadKit.acmp (g := (mkF m 6 (LS_RII r0 p1 p1) [(.ref wD), (.ref r0)])) X1 hx rfl rfl rfl (pc0 := 6) (pc' := 17) (same := false) rfl (hb hby d3_6) rfl (decide_eq_false fun q => hc6_2 (Value.ref.inj q)) (by decide) (by decide) ?_
      show Steps p.tables e below (T1.setTop (mkF m 17 (LS_RII r0 p1 p1) [])) _
      refine XS.iloadN X1.here hx rfl (hb hby d3_17) rfl ?_
      exact k
    obtain ⟨fs, hr, hrun, hended, hW, hsame⟩ := X1.leave (v := some (.int p1)) (fun h => by rw [Bd.returns] at h; cases h)
    refine ⟨_, _, ?_, hrun, hended, _, _, rfl, ?_, ⟨_, rfl⟩, hW, hsame.mono (by decide) (by decide)⟩
    · show Steps p.tables e below (T1.setTop (mkF m 18 (LS_RII r0 p1 p1) [(.int p1)])) _
      exact retOut X1 hx Bd.returns rfl (Or.inl ⟨rfl, Or.inl rfl, _, rfl⟩) (hb hby d3_18) hr
    · show Q3 Z r0 p1 wD h0 n0 _ T1.heap _
      rw [e1]
      exact ⟨by rw [if_neg hc6_2], N0, rfl⟩
theorem ef_0 (m : MethodId) (p0 : Int32) (p1 : Int32) (p2 : Int32) : entryFrame m #[(.int p0), (.int p1), (.int p2)] maxLocals = mkF m 0 #[.val (.int p0), .val (.int p1), .val (.int p2), .unset, .unset, .unset, .unset, .unset, .unset, .unset, .unset] [] := by first | (simp [entryFrame, mkF, argsToLocals, Value.category, maxLocals]; done) | rfl
theorem pn_0 : plainName "com/example/murray_hill/murrayhill/cron/CronFieldCanonicalPinLaw" = true := by first | (simp [plainName, overriddenIn]; done) | decide +kernel
abbrev LS_IIIuuuuuuuu (a0 : Int32) (a1 : Int32) (a2 : Int32) : Array Slot := #[.val (.int a0), .val (.int a1), .val (.int a2), .unset, .unset, .unset, .unset, .unset, .unset, .unset, .unset]
abbrev LS_IIIRuuuuuuu (a0 : Int32) (a1 : Int32) (a2 : Int32) (a3 : Addr) : Array Slot := #[.val (.int a0), .val (.int a1), .val (.int a2), .val (.ref a3), .unset, .unset, .unset, .unset, .unset, .unset, .unset]
abbrev LS_IIIRRuuuuuu (a0 : Int32) (a1 : Int32) (a2 : Int32) (a3 : Addr) (a4 : Addr) : Array Slot := #[.val (.int a0), .val (.int a1), .val (.int a2), .val (.ref a3), .val (.ref a4), .unset, .unset, .unset, .unset, .unset, .unset]
theorem pd___I : parseMethodDescriptor "()I" = some ⟨[], some .int⟩ := by decide +kernel
abbrev LS_IIIRRIuuuuu (a0 : Int32) (a1 : Int32) (a2 : Int32) (a3 : Addr) (a4 : Addr) (a5 : Int32) : Array Slot := #[.val (.int a0), .val (.int a1), .val (.int a2), .val (.ref a3), .val (.ref a4), .val (.int a5), .unset, .unset, .unset, .unset, .unset]
abbrev LS_IIIRRIIuuuu (a0 : Int32) (a1 : Int32) (a2 : Int32) (a3 : Addr) (a4 : Addr) (a5 : Int32) (a6 : Int32) : Array Slot := #[.val (.int a0), .val (.int a1), .val (.int a2), .val (.ref a3), .val (.ref a4), .val (.int a5), .val (.int a6), .unset, .unset, .unset, .unset]
abbrev LS_IIIRRIIIuuu (a0 : Int32) (a1 : Int32) (a2 : Int32) (a3 : Addr) (a4 : Addr) (a5 : Int32) (a6 : Int32) (a7 : Int32) : Array Slot := #[.val (.int a0), .val (.int a1), .val (.int a2), .val (.ref a3), .val (.ref a4), .val (.int a5), .val (.int a6), .val (.int a7), .unset, .unset, .unset]
abbrev LS_IIIRRIIIIuu (a0 : Int32) (a1 : Int32) (a2 : Int32) (a3 : Addr) (a4 : Addr) (a5 : Int32) (a6 : Int32) (a7 : Int32) (a8 : Int32) : Array Slot := #[.val (.int a0), .val (.int a1), .val (.int a2), .val (.ref a3), .val (.ref a4), .val (.int a5), .val (.int a6), .val (.int a7), .val (.int a8), .unset, .unset]
abbrev LS_IIIRRIIIIIu (a0 : Int32) (a1 : Int32) (a2 : Int32) (a3 : Addr) (a4 : Addr) (a5 : Int32) (a6 : Int32) (a7 : Int32) (a8 : Int32) (a9 : Int32) : Array Slot := #[.val (.int a0), .val (.int a1), .val (.int a2), .val (.ref a3), .val (.ref a4), .val (.int a5), .val (.int a6), .val (.int a7), .val (.int a8), .val (.int a9), .unset]
theorem pd__I_I : parseMethodDescriptor "(I)I" = some ⟨[.int], some .int⟩ := by decide +kernel
abbrev LS_IIIRRIIIIII (a0 : Int32) (a1 : Int32) (a2 : Int32) (a3 : Addr) (a4 : Addr) (a5 : Int32) (a6 : Int32) (a7 : Int32) (a8 : Int32) (a9 : Int32) (a10 : Int32) : Array Slot := #[.val (.int a0), .val (.int a1), .val (.int a2), .val (.ref a3), .val (.ref a4), .val (.int a5), .val (.int a6), .val (.int a7), .val (.int a8), .val (.int a9), .val (.int a10)]
def Q0 (Z : State) (p0 : Int32) (p1 : Int32) (p2 : Int32) (w_CronField_SECOND : Addr) (w_CronField_MINUTE : Addr) (w_CronField_HOUR : Addr) (w_CronField_DAY_OF_MONTH : Addr) (w_CronField_MONTH : Addr) (w_CronField_DAY_OF_WEEK : Addr) (h0 : Heap) (n0 : Nat) (v : Option Value) (h : Heap) (L : List Loc) : Prop := v = some (.int (1 : Int32)) ∧ Fr n0 L
set_option maxRecDepth 65536 in
set_option maxHeartbeats 40000000 in
theorem rm0 (l : Launch) (Z : State) (a0 : Array Value) (hw : ∀ d ∈ tables_1, d.before a0 Z = true) (ws : List Jvm.Cond) (p0 : Int32) (p1 : Int32) (p2 : Int32) (w_CronField_SECOND : Addr) (w_CronField_MINUTE : Addr) (w_CronField_HOUR : Addr) (w_CronField_DAY_OF_MONTH : Addr) (w_CronField_MONTH : Addr) (w_CronField_DAY_OF_WEEK : Addr) (h0 : Heap) (n0 : Nat) (Z0 : n0 ≤ h0.size) (S_CronField_SECOND : Sta Z h0 "com/example/murray_hill/murrayhill/cron/CronField" "SECOND" "Lcom/example/murray_hill/murrayhill/cron/CronField;" (.ref w_CronField_SECOND)) (E_CronField_SECOND : Exa Z h0 w_CronField_SECOND "com/example/murray_hill/murrayhill/cron/CronField") (S_CronField_MINUTE : Sta Z h0 "com/example/murray_hill/murrayhill/cron/CronField" "MINUTE" "Lcom/example/murray_hill/murrayhill/cron/CronField;" (.ref w_CronField_MINUTE)) (E_CronField_MINUTE : Exa Z h0 w_CronField_MINUTE "com/example/murray_hill/murrayhill/cron/CronField") (S_CronField_HOUR : Sta Z h0 "com/example/murray_hill/murrayhill/cron/CronField" "HOUR" "Lcom/example/murray_hill/murrayhill/cron/CronField;" (.ref w_CronField_HOUR)) (E_CronField_HOUR : Exa Z h0 w_CronField_HOUR "com/example/murray_hill/murrayhill/cron/CronField") (S_CronField_DAY_OF_MONTH : Sta Z h0 "com/example/murray_hill/murrayhill/cron/CronField" "DAY_OF_MONTH" "Lcom/example/murray_hill/murrayhill/cron/CronField;" (.ref w_CronField_DAY_OF_MONTH)) (E_CronField_DAY_OF_MONTH : Exa Z h0 w_CronField_DAY_OF_MONTH "com/example/murray_hill/murrayhill/cron/CronField") (S_CronField_MONTH : Sta Z h0 "com/example/murray_hill/murrayhill/cron/CronField" "MONTH" "Lcom/example/murray_hill/murrayhill/cron/CronField;" (.ref w_CronField_MONTH)) (E_CronField_MONTH : Exa Z h0 w_CronField_MONTH "com/example/murray_hill/murrayhill/cron/CronField") (S_CronField_DAY_OF_WEEK : Sta Z h0 "com/example/murray_hill/murrayhill/cron/CronField" "DAY_OF_WEEK" "Lcom/example/murray_hill/murrayhill/cron/CronField;" (.ref w_CronField_DAY_OF_WEEK)) (E_CronField_DAY_OF_WEEK : Exa Z h0 w_CronField_DAY_OF_WEEK "com/example/murray_hill/murrayhill/cron/CronField") (F_CronField_SECOND_min : Fld Z h0 w_CronField_SECOND "com/example/murray_hill/murrayhill/cron/CronField" "min" "I" (.int (0 : Int32))) (F_CronField_SECOND_max : Fld Z h0 w_CronField_SECOND "com/example/murray_hill/murrayhill/cron/CronField" "max" "I" (.int (59 : Int32))) (F_CronField_SECOND_ordinal : Fld Z h0 w_CronField_SECOND "java/lang/Enum" "ordinal" "I" (.int (0 : Int32))) (F_CronField_DAY_OF_WEEK_ordinal : Fld Z h0 w_CronField_DAY_OF_WEEK "java/lang/Enum" "ordinal" "I" (.int (5 : Int32))) (F_CronField_MINUTE_min : Fld Z h0 w_CronField_MINUTE "com/example/murray_hill/murrayhill/cron/CronField" "min" "I" (.int (0 : Int32))) (F_CronField_MINUTE_max : Fld Z h0 w_CronField_MINUTE "com/example/murray_hill/murrayhill/cron/CronField" "max" "I" (.int (59 : Int32))) (F_CronField_MINUTE_ordinal : Fld Z h0 w_CronField_MINUTE "java/lang/Enum" "ordinal" "I" (.int (1 : Int32))) (F_CronField_HOUR_min : Fld Z h0 w_CronField_HOUR "com/example/murray_hill/murrayhill/cron/CronField" "min" "I" (.int (0 : Int32))) (F_CronField_HOUR_max : Fld Z h0 w_CronField_HOUR "com/example/murray_hill/murrayhill/cron/CronField" "max" "I" (.int (23 : Int32))) (F_CronField_HOUR_ordinal : Fld Z h0 w_CronField_HOUR "java/lang/Enum" "ordinal" "I" (.int (2 : Int32))) (F_CronField_DAY_OF_WEEK_min : Fld Z h0 w_CronField_DAY_OF_WEEK "com/example/murray_hill/murrayhill/cron/CronField" "min" "I" (.int (0 : Int32))) (F_CronField_DAY_OF_WEEK_max : Fld Z h0 w_CronField_DAY_OF_WEEK "com/example/murray_hill/murrayhill/cron/CronField" "max" "I" (.int (7 : Int32))) (F_CronField_DAY_OF_MONTH_min : Fld Z h0 w_CronField_DAY_OF_MONTH "com/example/murray_hill/murrayhill/cron/CronField" "min" "I" (.int (1 : Int32))) (F_CronField_DAY_OF_MONTH_max : Fld Z h0 w_CronField_DAY_OF_MONTH "com/example/murray_hill/murrayhill/cron/CronField" "max" "I" (.int (31 : Int32))) (F_CronField_DAY_OF_MONTH_ordinal : Fld Z h0 w_CronField_DAY_OF_MONTH "java/lang/Enum" "ordinal" "I" (.int (3 : Int32))) (F_CronField_MONTH_min : Fld Z h0 w_CronField_MONTH "com/example/murray_hill/murrayhill/cron/CronField" "min" "I" (.int (1 : Int32))) (F_CronField_MONTH_max : Fld Z h0 w_CronField_MONTH "com/example/murray_hill/murrayhill/cron/CronField" "max" "I" (.int (12 : Int32))) (F_CronField_MONTH_ordinal : Fld Z h0 w_CronField_MONTH "java/lang/Enum" "ordinal" "I" (.int (4 : Int32))) :
    MetFree l x (head1 (Jvm.Cond.code x code maxLocals ret :: ws) room_1) (fun a U => a = #[(.int p0), (.int p1), (.int p2)] ∧ Z.Warmed39 U.vm ∧ U.heap = h0) (fun _ _ _ _ _ => True) (fun _ U o U' => ∃ v L, o = .returned v ∧ Q0 Z p0 p1 p2 w_CronField_SECOND w_CronField_MINUTE w_CronField_HOUR w_CronField_DAY_OF_MONTH w_CronField_MONTH w_CronField_DAY_OF_WEEK h0 n0 v U'.heap L ∧ FrameEnd U o U' L room_1.cells room_1.slots) := by
  refine MetFree.of_bodySF (plainFor_of_name pn_0) hisR ?_
  intro p e s m args below meth c s₁ Bd hml0 hP hK
  obtain ⟨rfl, hZ, hh⟩ := hP
  have hx := Bd.exec
  have hby := Bd.bytes
  have hml : c.maxLocals = 11 := hml0
  have hown : s.vm.findClass "com/example/murray_hill/murrayhill/cron/CronFieldCanonicalPinLaw" = some m.cls := findClass_of_methodNamed Bd.named
  have hnm := (name_of_methodNamed Bd.named Bd.method).1
  have X0 : Stand p l e room_1 s m #[(.int p0), (.int p1), (.int p2)] below meth c s₁ [] 0 0 := Stand.of_body Bd
  have e0 : s₁.heap = h0 := by rw [← hh, Bd.state]; rfl
  have N0 := Fr.nil n0
  refine own_go (B := s₁.setTop (mkF m 0 (LS_IIIuuuuuuuu p0 p1 p2) [])) (fun t k => castTop (ef_0 m p0 p1 p2) k) ?_
  refine own_go (B := s₁.setTop (mkF m 2 (LS_IIIuuuuuuuu p0 p1 p2) [(.int (6 : Int32))])) (fun t k => ?_) ?_
  · show Steps p.tables e below (s₁.setTop (mkF m 0 (LS_IIIuuuuuuuu p0 p1 p2) [])) _
    refine XS.bipush X0.here hx rfl (hb hby at_0) ?_
    exact k
  obtain ⟨T1, h1, k1, X1, e1, E1, A1, O1, st1⟩ := newR X0 hx hZ hown (hw _ (List.mem_of_getElem? (i := 0) rfl)) (hw _ (List.mem_of_getElem? (i := 1) rfl)) e0 (g := (mkF m 2 (LS_IIIuuuuuuuu p0 p1 p2) [(.int (6 : Int32))])) rfl (hb hby at_2) rfl (by decide) (cap := 6) (by decide) (by decide) (by decide) (by decide)
  obtain ⟨b1, g1⟩ : ∃ z, z = h0.size := ⟨_, rfl⟩
  rw [← g1] at A1 st1
  have g_b1 : n0 ≤ b1 := Nat.le_trans Z0 (Nat.le_of_eq g1.symm)
  have V1 : Arv Z h1 b1 k1 (.object "com/example/murray_hill/murrayhill/cron/CronField") (6 : Int32) [.null, .null, .null, .null, .null, .null] .null := (Arv.new A1 (by decide)).pad (pad_rep [] .null 6)
  refine own_go (B := T1.setTop (mkF m 5 (LS_IIIuuuuuuuu p0 p1 p2) [(.ref b1)])) (fun t k => st1 _ k) ?_
  have S_CronField_SECOND_v2 := S_CronField_SECOND.ext E1
  refine own_go (B := T1.setTop (mkF m 7 (LS_IIIuuuuuuuu p0 p1 p2) [(.int (0 : Int32)), (.ref b1), (.ref b1)])) (fun t k => ?_) ?_
  · show Steps p.tables e below (T1.setTop (mkF m 5 (LS_IIIuuuuuuuu p0 p1 p2) [(.ref b1)])) _
    refine XS.dup X1.here hx rfl (hb hby at_5) rfl rfl ?_
    show Steps p.tables e below (T1.setTop (mkF m 6 (LS_IIIuuuuuuuu p0 p1 p2) [(.ref b1), (.ref b1)])) _
    refine XS.iconst X1.here hx rfl (hb hby at_6) ?_
    exact k
  obtain ⟨T3, X3, e3, st3⟩ := getS2 X1 hx hZ hown (host := "") (Or.inl (hw _ (List.mem_of_getElem? (i := 2) rfl))) Via.refl e1 S_CronField_SECOND_v2 (g := (mkF m 7 (LS_IIIuuuuuuuu p0 p1 p2) [(.int (0 : Int32)), (.ref b1), (.ref b1)])) rfl (hb hby at_7)
  refine own_go (B := T3.setTop (mkF m 10 (LS_IIIuuuuuuuu p0 p1 p2) [(.ref w_CronField_SECOND), (.int (0 : Int32)), (.ref b1), (.ref b1)])) (fun t k => st3 _ k) ?_
  obtain ⟨cl4, Ar4, qa4, Sa4, Na4, Ha4, Ga4⟩ := V1
  have hin5 : ¬ ((0 : Int32) < 0 ∨ cl4.slots.size ≤ ((0 : Int32)).toNatClampNeg) := inb_of Sa4 ⟨by decide, by decide⟩
  have E_CronField_SECOND_v6 := E_CronField_SECOND.ext E1
  obtain ⟨T5, h5, X5, e5, W5, st5⟩ := stR X3 hx hZ e3 Ar4 (j := (0 : Int32)) hin5 rfl (Sto.ofV Ar4 qa4 O1 (Ins.self E_CronField_SECOND_v6)) (g := (mkF m 10 (LS_IIIuuuuuuuu p0 p1 p2) [(.ref w_CronField_SECOND), (.int (0 : Int32)), (.ref b1), (.ref b1)])) rfl rfl (hb hby at_10)
  have N5 := Fr.snoc X5 N0 g_b1
  have V5 : Arv Z h5 b1 k1 (.object "com/example/murray_hill/murrayhill/cron/CronField") (6 : Int32) [(.ref w_CronField_SECOND), .null, .null, .null, .null, .null] .null := Arv.set Ar4 qa4 Sa4 Na4 Ha4 Ga4 rfl W5 0 rfl (Nat.le_of_ble_eq_true rfl)
  refine own_go (B := T5.setTop (mkF m 11 (LS_IIIuuuuuuuu p0 p1 p2) [(.ref b1)])) (fun t k => st5 _ k) ?_
  have S_CronField_MINUTE_v7 := S_CronField_MINUTE.ext E1
  have S_CronField_MINUTE_v8 := S_CronField_MINUTE_v7.wr W5
  refine own_go (B := T5.setTop (mkF m 13 (LS_IIIuuuuuuuu p0 p1 p2) [(.int (1 : Int32)), (.ref b1), (.ref b1)])) (fun t k => ?_) ?_
  · show Steps p.tables e below (T5.setTop (mkF m 11 (LS_IIIuuuuuuuu p0 p1 p2) [(.ref b1)])) _
    refine XS.dup X5.here hx rfl (hb hby at_11) rfl rfl ?_
    show Steps p.tables e below (T5.setTop (mkF m 12 (LS_IIIuuuuuuuu p0 p1 p2) [(.ref b1), (.ref b1)])) _
    refine XS.iconst X5.here hx rfl (hb hby at_12) ?_
    exact k
  obtain ⟨T9, X9, e9, st9⟩ := getS2 X5 hx hZ hown (host := "") (Or.inl (hw _ (List.mem_of_getElem? (i := 6) rfl))) Via.refl e5 S_CronField_MINUTE_v8 (g := (mkF m 13 (LS_IIIuuuuuuuu p0 p1 p2) [(.int (1 : Int32)), (.ref b1), (.ref b1)])) rfl (hb hby at_13)
  refine own_go (B := T9.setTop (mkF m 16 (LS_IIIuuuuuuuu p0 p1 p2) [(.ref w_CronField_MINUTE), (.int (1 : Int32)), (.ref b1), (.ref b1)])) (fun t k => st9 _ k) ?_
  obtain ⟨cl10, Ar10, qa10, Sa10, Na10, Ha10, Ga10⟩ := V5
  have hin11 : ¬ ((1 : Int32) < 0 ∨ cl10.slots.size ≤ ((1 : Int32)).toNatClampNeg) := inb_of Sa10 ⟨by decide, by decide⟩
  have E_CronField_MINUTE_v12 := E_CronField_MINUTE.ext E1
  have E_CronField_MINUTE_v13 := E_CronField_MINUTE_v12.wr W5
  obtain ⟨T11, h11, X11, e11, W11, st11⟩ := stR X9 hx hZ e9 Ar10 (j := (1 : Int32)) hin11 rfl (Sto.ofV Ar10 qa10 O1 (Ins.self E_CronField_MINUTE_v13)) (g := (mkF m 16 (LS_IIIuuuuuuuu p0 p1 p2) [(.ref w_CronField_MINUTE), (.int (1 : Int32)), (.ref b1), (.ref b1)])) rfl rfl (hb hby at_16)
  have N11 := Fr.snoc X11 N5 g_b1
  have V11 : Arv Z h11 b1 k1 (.object "com/example/murray_hill/murrayhill/cron/CronField") (6 : Int32) [(.ref w_CronField_SECOND), (.ref w_CronField_MINUTE), .null, .null, .null, .null] .null := Arv.set Ar10 qa10 Sa10 Na10 Ha10 Ga10 rfl W11 1 rfl (Nat.le_of_ble_eq_true rfl)
  refine own_go (B := T11.setTop (mkF m 17 (LS_IIIuuuuuuuu p0 p1 p2) [(.ref b1)])) (fun t k => st11 _ k) ?_
  have S_CronField_HOUR_v14 := S_CronField_HOUR.ext E1
  have S_CronField_HOUR_v15 := S_CronField_HOUR_v14.wr W5
  have S_CronField_HOUR_v16 := S_CronField_HOUR_v15.wr W11
  refine own_go (B := T11.setTop (mkF m 19 (LS_IIIuuuuuuuu p0 p1 p2) [(.int (2 : Int32)), (.ref b1), (.ref b1)])) (fun t k => ?_) ?_
  · show Steps p.tables e below (T11.setTop (mkF m 17 (LS_IIIuuuuuuuu p0 p1 p2) [(.ref b1)])) _
    refine XS.dup X11.here hx rfl (hb hby at_17) rfl rfl ?_
    show Steps p.tables e below (T11.setTop (mkF m 18 (LS_IIIuuuuuuuu p0 p1 p2) [(.ref b1), (.ref b1)])) _
    refine XS.iconst X11.here hx rfl (hb hby at_18) ?_
    exact k
  obtain ⟨T17, X17, e17, st17⟩ := getS2 X11 hx hZ hown (host := "") (Or.inl (hw _ (List.mem_of_getElem? (i := 8) rfl))) Via.refl e11 S_CronField_HOUR_v16 (g := (mkF m 19 (LS_IIIuuuuuuuu p0 p1 p2) [(.int (2 : Int32)), (.ref b1), (.ref b1)])) rfl (hb hby at_19)
  refine own_go (B := T17.setTop (mkF m 22 (LS_IIIuuuuuuuu p0 p1 p2) [(.ref w_CronField_HOUR), (.int (2 : Int32)), (.ref b1), (.ref b1)])) (fun t k => st17 _ k) ?_
  obtain ⟨cl18, Ar18, qa18, Sa18, Na18, Ha18, Ga18⟩ := V11
  have hin19 : ¬ ((2 : Int32) < 0 ∨ cl18.slots.size ≤ ((2 : Int32)).toNatClampNeg) := inb_of Sa18 ⟨by decide, by decide⟩
  have E_CronField_HOUR_v20 := E_CronField_HOUR.ext E1
  have E_CronField_HOUR_v21 := E_CronField_HOUR_v20.wr W5
  have E_CronField_HOUR_v22 := E_CronField_HOUR_v21.wr W11
  obtain ⟨T19, h19, X19, e19, W19, st19⟩ := stR X17 hx hZ e17 Ar18 (j := (2 : Int32)) hin19 rfl (Sto.ofV Ar18 qa18 O1 (Ins.self E_CronField_HOUR_v22)) (g := (mkF m 22 (LS_IIIuuuuuuuu p0 p1 p2) [(.ref w_CronField_HOUR), (.int (2 : Int32)), (.ref b1), (.ref b1)])) rfl rfl (hb hby at_22)
  have N19 := Fr.snoc X19 N11 g_b1
  have V19 : Arv Z h19 b1 k1 (.object "com/example/murray_hill/murrayhill/cron/CronField") (6 : Int32) [(.ref w_CronField_SECOND), (.ref w_CronField_MINUTE), (.ref w_CronField_HOUR), .null, .null, .null] .null := Arv.set Ar18 qa18 Sa18 Na18 Ha18 Ga18 rfl W19 2 rfl (Nat.le_of_ble_eq_true rfl)
  refine own_go (B := T19.setTop (mkF m 23 (LS_IIIuuuuuuuu p0 p1 p2) [(.ref b1)])) (fun t k => st19 _ k) ?_
  have S_CronField_DAY_OF_MONTH_v23 := S_CronField_DAY_OF_MONTH.ext E1
  have S_CronField_DAY_OF_MONTH_v24 := S_CronField_DAY_OF_MONTH_v23.wr W5
  have S_CronField_DAY_OF_MONTH_v25 := S_CronField_DAY_OF_MONTH_v24.wr W11
  have S_CronField_DAY_OF_MONTH_v26 := S_CronField_DAY_OF_MONTH_v25.wr W19
  refine own_go (B := T19.setTop (mkF m 25 (LS_IIIuuuuuuuu p0 p1 p2) [(.int (3 : Int32)), (.ref b1), (.ref b1)])) (fun t k => ?_) ?_
  · show Steps p.tables e below (T19.setTop (mkF m 23 (LS_IIIuuuuuuuu p0 p1 p2) [(.ref b1)])) _
    refine XS.dup X19.here hx rfl (hb hby at_23) rfl rfl ?_
    show Steps p.tables e below (T19.setTop (mkF m 24 (LS_IIIuuuuuuuu p0 p1 p2) [(.ref b1), (.ref b1)])) _
    refine XS.iconst X19.here hx rfl (hb hby at_24) ?_
    exact k
  obtain ⟨T27, X27, e27, st27⟩ := getS2 X19 hx hZ hown (host := "") (Or.inl (hw _ (List.mem_of_getElem? (i := 10) rfl))) Via.refl e19 S_CronField_DAY_OF_MONTH_v26 (g := (mkF m 25 (LS_IIIuuuuuuuu p0 p1 p2) [(.int (3 : Int32)), (.ref b1), (.ref b1)])) rfl (hb hby at_25)
  refine own_go (B := T27.setTop (mkF m 28 (LS_IIIuuuuuuuu p0 p1 p2) [(.ref w_CronField_DAY_OF_MONTH), (.int (3 : Int32)), (.ref b1), (.ref b1)])) (fun t k => st27 _ k) ?_
  obtain ⟨cl28, Ar28, qa28, Sa28, Na28, Ha28, Ga28⟩ := V19
  have hin29 : ¬ ((3 : Int32) < 0 ∨ cl28.slots.size ≤ ((3 : Int32)).toNatClampNeg) := inb_of Sa28 ⟨by decide, by decide⟩
  have E_CronField_DAY_OF_MONTH_v30 := E_CronField_DAY_OF_MONTH.ext E1
  have E_CronField_DAY_OF_MONTH_v31 := E_CronField_DAY_OF_MONTH_v30.wr W5
  have E_CronField_DAY_OF_MONTH_v32 := E_CronField_DAY_OF_MONTH_v31.wr W11
  have E_CronField_DAY_OF_MONTH_v33 := E_CronField_DAY_OF_MONTH_v32.wr W19
  obtain ⟨T29, h29, X29, e29, W29, st29⟩ := stR X27 hx hZ e27 Ar28 (j := (3 : Int32)) hin29 rfl (Sto.ofV Ar28 qa28 O1 (Ins.self E_CronField_DAY_OF_MONTH_v33)) (g := (mkF m 28 (LS_IIIuuuuuuuu p0 p1 p2) [(.ref w_CronField_DAY_OF_MONTH), (.int (3 : Int32)), (.ref b1), (.ref b1)])) rfl rfl (hb hby at_28)
  have N29 := Fr.snoc X29 N19 g_b1
  have V29 : Arv Z h29 b1 k1 (.object "com/example/murray_hill/murrayhill/cron/CronField") (6 : Int32) [(.ref w_CronField_SECOND), (.ref w_CronField_MINUTE), (.ref w_CronField_HOUR), (.ref w_CronField_DAY_OF_MONTH), .null, .null] .null := Arv.set Ar28 qa28 Sa28 Na28 Ha28 Ga28 rfl W29 3 rfl (Nat.le_of_ble_eq_true rfl)
  refine own_go (B := T29.setTop (mkF m 29 (LS_IIIuuuuuuuu p0 p1 p2) [(.ref b1)])) (fun t k => st29 _ k) ?_
  have S_CronField_MONTH_v34 := S_CronField_MONTH.ext E1
  have S_CronField_MONTH_v35 := S_CronField_MONTH_v34.wr W5
  have S_CronField_MONTH_v36 := S_CronField_MONTH_v35.wr W11
  have S_CronField_MONTH_v37 := S_CronField_MONTH_v36.wr W19
  have S_CronField_MONTH_v38 := S_CronField_MONTH_v37.wr W29
  refine own_go (B := T29.setTop (mkF m 31 (LS_IIIuuuuuuuu p0 p1 p2) [(.int (4 : Int32)), (.ref b1), (.ref b1)])) (fun t k => ?_) ?_
  · show Steps p.tables e below (T29.setTop (mkF m 29 (LS_IIIuuuuuuuu p0 p1 p2) [(.ref b1)])) _
    refine XS.dup X29.here hx rfl (hb hby at_29) rfl rfl ?_
    show Steps p.tables e below (T29.setTop (mkF m 30 (LS_IIIuuuuuuuu p0 p1 p2) [(.ref b1), (.ref b1)])) _
    refine XS.iconst X29.here hx rfl (hb hby at_30) ?_
    exact k
  obtain ⟨T39, X39, e39, st39⟩ := getS2 X29 hx hZ hown (host := "") (Or.inl (hw _ (List.mem_of_getElem? (i := 12) rfl))) Via.refl e29 S_CronField_MONTH_v38 (g := (mkF m 31 (LS_IIIuuuuuuuu p0 p1 p2) [(.int (4 : Int32)), (.ref b1), (.ref b1)])) rfl (hb hby at_31)
  refine own_go (B := T39.setTop (mkF m 34 (LS_IIIuuuuuuuu p0 p1 p2) [(.ref w_CronField_MONTH), (.int (4 : Int32)), (.ref b1), (.ref b1)])) (fun t k => st39 _ k) ?_
  obtain ⟨cl40, Ar40, qa40, Sa40, Na40, Ha40, Ga40⟩ := V29
  have hin41 : ¬ ((4 : Int32) < 0 ∨ cl40.slots.size ≤ ((4 : Int32)).toNatClampNeg) := inb_of Sa40 ⟨by decide, by decide⟩
  have E_CronField_MONTH_v42 := E_CronField_MONTH.ext E1
  have E_CronField_MONTH_v43 := E_CronField_MONTH_v42.wr W5
  have E_CronField_MONTH_v44 := E_CronField_MONTH_v43.wr W11
  have E_CronField_MONTH_v45 := E_CronField_MONTH_v44.wr W19
  have E_CronField_MONTH_v46 := E_CronField_MONTH_v45.wr W29
  obtain ⟨T41, h41, X41, e41, W41, st41⟩ := stR X39 hx hZ e39 Ar40 (j := (4 : Int32)) hin41 rfl (Sto.ofV Ar40 qa40 O1 (Ins.self E_CronField_MONTH_v46)) (g := (mkF m 34 (LS_IIIuuuuuuuu p0 p1 p2) [(.ref w_CronField_MONTH), (.int (4 : Int32)), (.ref b1), (.ref b1)])) rfl rfl (hb hby at_34)
  have N41 := Fr.snoc X41 N29 g_b1
  have V41 : Arv Z h41 b1 k1 (.object "com/example/murray_hill/murrayhill/cron/CronField") (6 : Int32) [(.ref w_CronField_SECOND), (.ref w_CronField_MINUTE), (.ref w_CronField_HOUR), (.ref w_CronField_DAY_OF_MONTH), (.ref w_CronField_MONTH), .null] .null := Arv.set Ar40 qa40 Sa40 Na40 Ha40 Ga40 rfl W41 4 rfl (Nat.le_of_ble_eq_true rfl)
  refine own_go (B := T41.setTop (mkF m 35 (LS_IIIuuuuuuuu p0 p1 p2) [(.ref b1)])) (fun t k => st41 _ k) ?_
  have S_CronField_DAY_OF_WEEK_v47 := S_CronField_DAY_OF_WEEK.ext E1
  have S_CronField_DAY_OF_WEEK_v48 := S_CronField_DAY_OF_WEEK_v47.wr W5
  have S_CronField_DAY_OF_WEEK_v49 := S_CronField_DAY_OF_WEEK_v48.wr W11
  have S_CronField_DAY_OF_WEEK_v50 := S_CronField_DAY_OF_WEEK_v49.wr W19
  have S_CronField_DAY_OF_WEEK_v51 := S_CronField_DAY_OF_WEEK_v50.wr W29
  have S_CronField_DAY_OF_WEEK_v52 := S_CronField_DAY_OF_WEEK_v51.wr W41
  refine own_go (B := T41.setTop (mkF m 37 (LS_IIIuuuuuuuu p0 p1 p2) [(.int (5 : Int32)), (.ref b1), (.ref b1)])) (fun t k => ?_) ?_
  · show Steps p.tables e below (T41.setTop (mkF m 35 (LS_IIIuuuuuuuu p0 p1 p2) [(.ref b1)])) _
    refine XS.dup X41.here hx rfl (hb hby at_35) rfl rfl ?_
    show Steps p.tables e below (T41.setTop (mkF m 36 (LS_IIIuuuuuuuu p0 p1 p2) [(.ref b1), (.ref b1)])) _
    refine XS.iconst X41.here hx rfl (hb hby at_36) ?_
    exact k
  obtain ⟨T53, X53, e53, st53⟩ := getS2 X41 hx hZ hown (host := "") (Or.inl (hw _ (List.mem_of_getElem? (i := 14) rfl))) Via.refl e41 S_CronField_DAY_OF_WEEK_v52 (g := (mkF m 37 (LS_IIIuuuuuuuu p0 p1 p2) [(.int (5 : Int32)), (.ref b1), (.ref b1)])) rfl (hb hby at_37)
  refine own_go (B := T53.setTop (mkF m 40 (LS_IIIuuuuuuuu p0 p1 p2) [(.ref w_CronField_DAY_OF_WEEK), (.int (5 : Int32)), (.ref b1), (.ref b1)])) (fun t k => st53 _ k) ?_
  obtain ⟨cl54, Ar54, qa54, Sa54, Na54, Ha54, Ga54⟩ := V41
  have hin55 : ¬ ((5 : Int32) < 0 ∨ cl54.slots.size ≤ ((5 : Int32)).toNatClampNeg) := inb_of Sa54 ⟨by decide, by decide⟩
  have E_CronField_DAY_OF_WEEK_v56 := E_CronField_DAY_OF_WEEK.ext E1
  have E_CronField_DAY_OF_WEEK_v57 := E_CronField_DAY_OF_WEEK_v56.wr W5
  have E_CronField_DAY_OF_WEEK_v58 := E_CronField_DAY_OF_WEEK_v57.wr W11
  have E_CronField_DAY_OF_WEEK_v59 := E_CronField_DAY_OF_WEEK_v58.wr W19
  have E_CronField_DAY_OF_WEEK_v60 := E_CronField_DAY_OF_WEEK_v59.wr W29
  have E_CronField_DAY_OF_WEEK_v61 := E_CronField_DAY_OF_WEEK_v60.wr W41
  obtain ⟨T55, h55, X55, e55, W55, st55⟩ := stR X53 hx hZ e53 Ar54 (j := (5 : Int32)) hin55 rfl (Sto.ofV Ar54 qa54 O1 (Ins.self E_CronField_DAY_OF_WEEK_v61)) (g := (mkF m 40 (LS_IIIuuuuuuuu p0 p1 p2) [(.ref w_CronField_DAY_OF_WEEK), (.int (5 : Int32)), (.ref b1), (.ref b1)])) rfl rfl (hb hby at_40)
  have N55 := Fr.snoc X55 N41 g_b1
  have V55 : Arv Z h55 b1 k1 (.object "com/example/murray_hill/murrayhill/cron/CronField") (6 : Int32) [(.ref w_CronField_SECOND), (.ref w_CronField_MINUTE), (.ref w_CronField_HOUR), (.ref w_CronField_DAY_OF_MONTH), (.ref w_CronField_MONTH), (.ref w_CronField_DAY_OF_WEEK)] .null := Arv.set Ar54 qa54 Sa54 Na54 Ha54 Ga54 rfl W55 5 rfl (Nat.le_of_ble_eq_true rfl)
  refine own_go (B := T55.setTop (mkF m 41 (LS_IIIuuuuuuuu p0 p1 p2) [(.ref b1)])) (fun t k => st55 _ k) ?_
  refine own_go (B := T55.setTop (mkF m 50 (LS_IIIRuuuuuuu p0 p1 p2 b1) [(.int ((p0 &&& (2147483647 : Int32)) % (6 : Int32))), (.ref b1)])) (fun t k => ?_) ?_
  · show Steps p.tables e below (T55.setTop (mkF m 41 (LS_IIIuuuuuuuu p0 p1 p2) [(.ref b1)])) _
    refine XS.astoreN X55.here hx rfl (hb hby at_41) rfl rfl (l' := (LS_IIIRuuuuuuu p0 p1 p2 b1)) rfl ?_
    show Steps p.tables e below (T55.setTop (mkF m 42 (LS_IIIRuuuuuuu p0 p1 p2 b1) [])) _
    refine XS.aloadN X55.here hx rfl (hb hby at_42) rfl rfl ?_
    show Steps p.tables e below (T55.setTop (mkF m 43 (LS_IIIRuuuuuuu p0 p1 p2 b1) [(.ref b1)])) _
    refine XS.iloadN X55.here hx rfl (hb hby at_43) rfl ?_
    show Steps p.tables e below (T55.setTop (mkF m 44 (LS_IIIRuuuuuuu p0 p1 p2 b1) [(.int p0), (.ref b1)])) _
    refine X55.ldcInt hx hown (mvT hZ (hw _ (List.mem_of_getElem? (i := 16) rfl))) (g := (mkF m 44 (LS_IIIRuuuuuuu p0 p1 p2 b1) [(.int p0), (.ref b1)])) rfl (hb hby at_44) _ ?_
    show Steps p.tables e below (T55.setTop (mkF m 46 (LS_IIIRuuuuuuu p0 p1 p2 b1) [(.int (2147483647 : Int32)), (.int p0), (.ref b1)])) _
    refine XS.iand X55.here hx rfl (hb hby at_46) rfl ?_
    show Steps p.tables e below (T55.setTop (mkF m 47 (LS_IIIRuuuuuuu p0 p1 p2 b1) [(.int (p0 &&& (2147483647 : Int32))), (.ref b1)])) _
    refine XS.bipush X55.here hx rfl (hb hby at_47) ?_
    show Steps p.tables e below (T55.setTop (mkF m 49 (LS_IIIRuuuuuuu p0 p1 p2 b1) [(.int (6 : Int32)), (.int (p0 &&& (2147483647 : Int32))), (.ref b1)])) _
    refine Jvm.RoadKit.iremM X55 hx rfl (hb hby at_49) rfl (by decide) ?_
    exact k
  rcases own_mod6 p0 with hk62 | hk62 | hk62 | hk62 | hk62 | hk62
  · rw [hk62]
    obtain ⟨cl63, Ar63, qa63, Sa63, Na63, Ha63, Ga63⟩ := V55
    have hin64 : ¬ ((0 : Int32) < 0 ∨ cl63.slots.size ≤ ((0 : Int32)).toNatClampNeg) := inb_of Sa63 ⟨by decide, by decide⟩
    have hat64 : cl63.slots[((0 : Int32)).toNatClampNeg]? = some (.ref w_CronField_SECOND) := Has.at Ha63 hin64 rfl
    refine own_go (B := T55.setTop (mkF m 55 (LS_IIIRRuuuuuu p0 p1 p2 b1 w_CronField_SECOND) [(.ref w_CronField_SECOND)])) (fun t k => ?_) ?_
    · show Steps p.tables e below (T55.setTop (mkF m 50 (LS_IIIRuuuuuuu p0 p1 p2 b1) [(.int (0 : Int32)), (.ref b1)])) _
      refine X55.aaload hx (j := (0 : Int32)) (v := (.ref w_CronField_SECOND)) (by rw [e55]; exact Ar63.1) (State.isArrayOf_alike hZ.alike Ar63.2.1) rfl Ar63.2.2 hin64 hat64 (g := (mkF m 50 (LS_IIIRuuuuuuu p0 p1 p2 b1) [(.int (0 : Int32)), (.ref b1)])) rfl rfl (hb hby at_50) _ ?_
      show Steps p.tables e below (T55.setTop (mkF m 51 (LS_IIIRuuuuuuu p0 p1 p2 b1) [(.ref w_CronField_SECOND)])) _
      refine XS.astore X55.here hx rfl (hb hby at_51) rfl rfl (l' := (LS_IIIRRuuuuuu p0 p1 p2 b1 w_CronField_SECOND)) rfl ?_
      show Steps p.tables e below (T55.setTop (mkF m 53 (LS_IIIRRuuuuuu p0 p1 p2 b1 w_CronField_SECOND) [])) _
      refine XS.aload X55.here hx rfl (hb hby at_53) rfl rfl ?_
      exact k
    have F_CronField_SECOND_min_v65 := F_CronField_SECOND_min.ext E1
    have ne67 : w_CronField_SECOND ≠ b1 := Nat.ne_of_lt (Nat.lt_of_lt_of_le F_CronField_SECOND_min.lt (Nat.le_of_eq g1.symm))
    have F_CronField_SECOND_min_v66 := F_CronField_SECOND_min_v65.other W5 (Or.inl ne67)
    have F_CronField_SECOND_min_v68 := F_CronField_SECOND_min_v66.other W11 (Or.inl ne67)
    have F_CronField_SECOND_min_v69 := F_CronField_SECOND_min_v68.other W19 (Or.inl ne67)
    have F_CronField_SECOND_min_v70 := F_CronField_SECOND_min_v69.other W29 (Or.inl ne67)
    have F_CronField_SECOND_min_v71 := F_CronField_SECOND_min_v70.other W41 (Or.inl ne67)
    have F_CronField_SECOND_min_v72 := F_CronField_SECOND_min_v71.other W55 (Or.inl ne67)
    have Z0_v73 := Nat.le_trans Z0 E1.1
    have Z0_v74 := Nat.le_trans Z0_v73 (Nat.le_of_eq W5.size.symm)
    have Z0_v75 := Nat.le_trans Z0_v74 (Nat.le_of_eq W11.size.symm)
    have Z0_v76 := Nat.le_trans Z0_v75 (Nat.le_of_eq W19.size.symm)
    have Z0_v77 := Nat.le_trans Z0_v76 (Nat.le_of_eq W29.size.symm)
    have Z0_v78 := Nat.le_trans Z0_v77 (Nat.le_of_eq W41.size.symm)
    have Z0_v79 := Nat.le_trans Z0_v78 (Nat.le_of_eq W55.size.symm)
    have E_CronField_SECOND_v81 := E_CronField_SECOND_v6.wr W5
    have E_CronField_SECOND_v82 := E_CronField_SECOND_v81.wr W11
    have E_CronField_SECOND_v83 := E_CronField_SECOND_v82.wr W19
    have E_CronField_SECOND_v84 := E_CronField_SECOND_v83.wr W29
    have E_CronField_SECOND_v85 := E_CronField_SECOND_v84.wr W41
    have E_CronField_SECOND_v86 := E_CronField_SECOND_v85.wr W55
    obtain ⟨cq80, kq80, q80a, q80b, q80c⟩ := isOf hZ e55 E_CronField_SECOND_v86
    obtain ⟨_, _, ⟨T80, L80, k80, n80⟩, -, X80, ⟨Lc80, hQ80, l80, y80, z80⟩, st80⟩ := X55.virtualBack hx (y := (⟨"com/example/murray_hill/murrayhill/cron/CronField", "min", "()I"⟩ : MethodName)) (z := (⟨"com/example/murray_hill/murrayhill/cron/CronField", "min", "()I"⟩ : MethodName)) hown (mvT hZ (hw _ (List.mem_of_getElem? (i := 17) rfl))) (mvT hZ (hw _ (List.mem_of_getElem? (i := 18) rfl))) (notFace_of_selects (args := #[]) (mvT hZ (hw _ (List.mem_of_getElem? (i := 20) rfl)))) (mvT hZ (hw _ (List.mem_of_getElem? (i := 20) rfl))) (mvT hZ (hw _ (List.mem_of_getElem? (i := 19) rfl))) (by decide) (backOf (W := 0) (rm1 l Z a0 hw [] w_CronField_SECOND (0 : Int32) h55 n0 Z0_v79 F_CronField_SECOND_min_v72) hZ (hw _ (List.mem_of_getElem? (i := 21) rfl)) (hw _ (List.mem_of_getElem? (i := 3) rfl)) (by decide) (by decide)) q80a q80c (g := (mkF m 55 (LS_IIIRRuuuuuu p0 p1 p2 b1 w_CronField_SECOND) [(.ref w_CronField_SECOND)])) rfl (by rw [hml]; rfl) (Steps.refl _) (argsL := []) (rest := []) (lenOf pd___I rfl) rfl (by show 2 * 0 + _ ≤ _; exact Nat.le_of_eq rfl) (hb hby at_55) (fun _ _ => ⟨rfl, e55, (by decide : 1 + 0 ≤ _), (by decide : 6 + 0 ≤ _)⟩)
    dsimp only [Pt.U, Pt.locs, Pt.cells, Pt.slots] at X80 l80 y80 z80 st80 hQ80
    subst l80 y80 z80
    obtain ⟨rfl, N80q, e80⟩ := hQ80
    have N80 := Fr.app N55 N80q
    refine own_go (B := T80.setTop (mkF m 58 (LS_IIIRRuuuuuu p0 p1 p2 b1 w_CronField_SECOND) [(.int (0 : Int32))])) (fun t k => st80.trans k) ?_
    refine own_go (B := T80.setTop (mkF m 62 (LS_IIIRRIuuuuu p0 p1 p2 b1 w_CronField_SECOND (0 : Int32)) [(.ref w_CronField_SECOND)])) (fun t k => ?_) ?_
    · show Steps p.tables e below (T80.setTop (mkF m 58 (LS_IIIRRuuuuuu p0 p1 p2 b1 w_CronField_SECOND) [(.int (0 : Int32))])) _
      refine XS.istore X80.here hx rfl (hb hby at_58) rfl (l' := (LS_IIIRRIuuuuu p0 p1 p2 b1 w_CronField_SECOND (0 : Int32))) rfl ?_
      show Steps p.tables e below (T80.setTop (mkF m 60 (LS_IIIRRIuuuuu p0 p1 p2 b1 w_CronField_SECOND (0 : Int32)) [])) _
      refine XS.aload X80.here hx rfl (hb hby at_60) rfl rfl ?_
      exact k
    have F_CronField_SECOND_max_v87 := F_CronField_SECOND_max.ext E1
    have F_CronField_SECOND_max_v88 := F_CronField_SECOND_max_v87.other W5 (Or.inl ne67)
    have F_CronField_SECOND_max_v89 := F_CronField_SECOND_max_v88.other W11 (Or.inl ne67)
    have F_CronField_SECOND_max_v90 := F_CronField_SECOND_max_v89.other W19 (Or.inl ne67)
    have F_CronField_SECOND_max_v91 := F_CronField_SECOND_max_v90.other W29 (Or.inl ne67)
    have F_CronField_SECOND_max_v92 := F_CronField_SECOND_max_v91.other W41 (Or.inl ne67)
    have F_CronField_SECOND_max_v93 := F_CronField_SECOND_max_v92.other W55 (Or.inl ne67)
    obtain ⟨cq94, kq94, q94a, q94b, q94c⟩ := isOf hZ e80 E_CronField_SECOND_v86
    obtain ⟨_, _, ⟨T94, L94, k94, n94⟩, -, X94, ⟨Lc94, hQ94, l94, y94, z94⟩, st94⟩ := X80.virtualBack hx (y := (⟨"com/example/murray_hill/murrayhill/cron/CronField", "max", "()I"⟩ : MethodName)) (z := (⟨"com/example/murray_hill/murrayhill/cron/CronField", "max", "()I"⟩ : MethodName)) hown (mvT hZ (hw _ (List.mem_of_getElem? (i := 24) rfl))) (mvT hZ (hw _ (List.mem_of_getElem? (i := 25) rfl))) (notFace_of_selects (args := #[]) (mvT hZ (hw _ (List.mem_of_getElem? (i := 27) rfl)))) (mvT hZ (hw _ (List.mem_of_getElem? (i := 27) rfl))) (mvT hZ (hw _ (List.mem_of_getElem? (i := 26) rfl))) (by decide) (backOf (W := 0) (rm2 l Z a0 hw [] w_CronField_SECOND (59 : Int32) h55 n0 Z0_v79 F_CronField_SECOND_max_v93) hZ (hw _ (List.mem_of_getElem? (i := 28) rfl)) (hw _ (List.mem_of_getElem? (i := 3) rfl)) (by decide) (by decide)) q94a q94c (g := (mkF m 62 (LS_IIIRRIuuuuu p0 p1 p2 b1 w_CronField_SECOND (0 : Int32)) [(.ref w_CronField_SECOND)])) rfl (by rw [hml]; rfl) (Steps.refl _) (argsL := []) (rest := []) (lenOf pd___I rfl) rfl (by show 2 * 0 + _ ≤ _; exact Nat.le_of_eq rfl) (hb hby at_62) (fun _ _ => ⟨rfl, e80, (by decide : 1 + 0 ≤ _), (by decide : 6 + 0 ≤ _)⟩)
    dsimp only [Pt.U, Pt.locs, Pt.cells, Pt.slots] at X94 l94 y94 z94 st94 hQ94
    subst l94 y94 z94
    obtain ⟨rfl, N94q, e94⟩ := hQ94
    have N94 := Fr.app N80 N94q
    refine own_go (B := T94.setTop (mkF m 65 (LS_IIIRRIuuuuu p0 p1 p2 b1 w_CronField_SECOND (0 : Int32)) [(.int (59 : Int32))])) (fun t k => st94.trans k) ?_
    refine own_go (B := T94.setTop (mkF m 67 (LS_IIIRRIIuuuu p0 p1 p2 b1 w_CronField_SECOND (0 : Int32) (59 : Int32)) [])) (fun t k => ?_) ?_
    · show Steps p.tables e below (T94.setTop (mkF m 65 (LS_IIIRRIuuuuu p0 p1 p2 b1 w_CronField_SECOND (0 : Int32)) [(.int (59 : Int32))])) _
      refine XS.istore X94.here hx rfl (hb hby at_65) rfl (l' := (LS_IIIRRIIuuuu p0 p1 p2 b1 w_CronField_SECOND (0 : Int32) (59 : Int32))) rfl ?_
      exact k
    refine own_join X94 (ι := Int32) (fun i95 T' => T'.heap = h55) (fun i95 => mkF m 96 (LS_IIIRRIIIuuu p0 p1 p2 b1 w_CronField_SECOND (0 : Int32) (59 : Int32) i95) []) ?_ ?_
    · intro x7 T95 X95 hi95
      have e95 := hi95
      refine own_go (B := T95.setTop (mkF m 100 (LS_IIIRRIIIuuu p0 p1 p2 b1 w_CronField_SECOND (0 : Int32) (59 : Int32) x7) [(.int x7), (.int (0 : Int32))])) (fun t k => ?_) ?_
      · show Steps p.tables e below (T95.setTop (mkF m 96 (LS_IIIRRIIIuuu p0 p1 p2 b1 w_CronField_SECOND (0 : Int32) (59 : Int32) x7) [])) _
        refine XS.iload X95.here hx rfl (hb hby at_96) rfl ?_
        show Steps p.tables e below (T95.setTop (mkF m 98 (LS_IIIRRIIIuuu p0 p1 p2 b1 w_CronField_SECOND (0 : Int32) (59 : Int32) x7) [(.int (0 : Int32))])) _
        refine XS.iload X95.here hx rfl (hb hby at_98) rfl ?_
        exact k
      by_cases hc100_96 : x7 < (0 : Int32)
      · have S_CronField_DAY_OF_WEEK_v97 := S_CronField_DAY_OF_WEEK_v52.wr W55
        refine own_go (B := T95.setTop (mkF m 119 (LS_IIIRRIIIIuu p0 p1 p2 b1 w_CronField_SECOND (0 : Int32) (59 : Int32) x7 (0 : Int32)) [(.ref w_CronField_SECOND)])) (fun t k => ?_) ?_
        · show Steps p.tables e below (T95.setTop (mkF m 100 (LS_IIIRRIIIuuu p0 p1 p2 b1 w_CronField_SECOND (0 : Int32) (59 : Int32) x7) [(.int x7), (.int (0 : Int32))])) _
          refine XS.icmpYes X95.here hx rfl (pc0 := 100) (pc' := 114) rfl (hb hby at_100) rfl (tlt hc100_96).2.2.1 (by decide) (by decide) ?_
          show Steps p.tables e below (T95.setTop (mkF m 114 (LS_IIIRRIIIuuu p0 p1 p2 b1 w_CronField_SECOND (0 : Int32) (59 : Int32) x7) [])) _
          refine XS.iconst X95.here hx rfl (hb hby at_114) ?_
          show Steps p.tables e below (T95.setTop (mkF m 115 (LS_IIIRRIIIuuu p0 p1 p2 b1 w_CronField_SECOND (0 : Int32) (59 : Int32) x7) [(.int (0 : Int32))])) _
          refine XS.istore X95.here hx rfl (hb hby at_115) rfl (l' := (LS_IIIRRIIIIuu p0 p1 p2 b1 w_CronField_SECOND (0 : Int32) (59 : Int32) x7 (0 : Int32))) rfl ?_
          show Steps p.tables e below (T95.setTop (mkF m 117 (LS_IIIRRIIIIuu p0 p1 p2 b1 w_CronField_SECOND (0 : Int32) (59 : Int32) x7 (0 : Int32)) [])) _
          refine XS.aload X95.here hx rfl (hb hby at_117) rfl rfl ?_
          exact k
        obtain ⟨T98, X98, e98, st98⟩ := getS2 X95 hx hZ hown (host := "") (Or.inl (hw _ (List.mem_of_getElem? (i := 14) rfl))) Via.refl e95 S_CronField_DAY_OF_WEEK_v97 (g := (mkF m 119 (LS_IIIRRIIIIuu p0 p1 p2 b1 w_CronField_SECOND (0 : Int32) (59 : Int32) x7 (0 : Int32)) [(.ref w_CronField_SECOND)])) rfl (hb hby at_119)
        refine own_go (B := T98.setTop (mkF m 122 (LS_IIIRRIIIIuu p0 p1 p2 b1 w_CronField_SECOND (0 : Int32) (59 : Int32) x7 (0 : Int32)) [(.ref w_CronField_DAY_OF_WEEK), (.ref w_CronField_SECOND)])) (fun t k => st98 _ k) ?_
        refine own_go (B := T98.setTop (mkF m 148 (LS_IIIRRIIIIIu p0 p1 p2 b1 w_CronField_SECOND (0 : Int32) (59 : Int32) x7 (0 : Int32) x7) [(.int x7), (.ref w_CronField_SECOND)])) (fun t k => ?_) ?_
        · show Steps p.tables e below (T98.setTop (mkF m 122 (LS_IIIRRIIIIuu p0 p1 p2 b1 w_CronField_SECOND (0 : Int32) (59 : Int32) x7 (0 : Int32)) [(.ref w_CronField_DAY_OF_WEEK), (.ref w_CronField_SECOND)])) _
          refine Jvm.RoadKit.acmp (g := (mkF m 122 (LS_IIIRRIIIIuu p0 p1 p2 b1 w_CronField_SECOND (0 : Int32) (59 : Int32) x7 (0 : Int32)) [(.ref w_CronField_DAY_OF_WEEK), (.ref w_CronField_SECOND)])) X98 hx rfl rfl rfl (pc0 := 122) (pc' := 140) (same := false) rfl (hb hby at_122) rfl (decide_eq_false fun q => (Fld.ne F_CronField_SECOND_ordinal F_CronField_DAY_OF_WEEK_ordinal (by decide)) (Value.ref.inj q)) (by decide) (by decide) ?_
          show Steps p.tables e below (T98.setTop (mkF m 140 (LS_IIIRRIIIIuu p0 p1 p2 b1 w_CronField_SECOND (0 : Int32) (59 : Int32) x7 (0 : Int32)) [])) _
          refine XS.iload X98.here hx rfl (hb hby at_140) rfl ?_
          show Steps p.tables e below (T98.setTop (mkF m 142 (LS_IIIRRIIIIuu p0 p1 p2 b1 w_CronField_SECOND (0 : Int32) (59 : Int32) x7 (0 : Int32)) [(.int x7)])) _
          refine XS.istore X98.here hx rfl (hb hby at_142) rfl (l' := (LS_IIIRRIIIIIu p0 p1 p2 b1 w_CronField_SECOND (0 : Int32) (59 : Int32) x7 (0 : Int32) x7)) rfl ?_
          show Steps p.tables e below (T98.setTop (mkF m 144 (LS_IIIRRIIIIIu p0 p1 p2 b1 w_CronField_SECOND (0 : Int32) (59 : Int32) x7 (0 : Int32) x7) [])) _
          refine XS.aload X98.here hx rfl (hb hby at_144) rfl rfl ?_
          show Steps p.tables e below (T98.setTop (mkF m 146 (LS_IIIRRIIIIIu p0 p1 p2 b1 w_CronField_SECOND (0 : Int32) (59 : Int32) x7 (0 : Int32) x7) [(.ref w_CronField_SECOND)])) _
          refine XS.iload X98.here hx rfl (hb hby at_146) rfl ?_
          exact k
        obtain ⟨cq99, kq99, q99a, q99b, q99c⟩ := isOf hZ e98 E_CronField_SECOND_v86
        obtain ⟨_, _, ⟨T99, L99, k99, n99⟩, -, X99, ⟨Lc99, hQ99, l99, y99, z99⟩, st99⟩ := X98.virtualBack hx (y := (⟨"com/example/murray_hill/murrayhill/cron/CronField", "canonical", "(I)I"⟩ : MethodName)) (z := (⟨"com/example/murray_hill/murrayhill/cron/CronField", "canonical", "(I)I"⟩ : MethodName)) hown (mvT hZ (hw _ (List.mem_of_getElem? (i := 31) rfl))) (mvT hZ (hw _ (List.mem_of_getElem? (i := 32) rfl))) (notFace_of_selects (args := #[]) (mvT hZ (hw _ (List.mem_of_getElem? (i := 34) rfl)))) (mvT hZ (hw _ (List.mem_of_getElem? (i := 34) rfl))) (mvT hZ (hw _ (List.mem_of_getElem? (i := 33) rfl))) (by decide) (backOf (W := 0) (rm3 l Z a0 hw [] w_CronField_SECOND x7 w_CronField_DAY_OF_WEEK h55 n0 Z0_v79 S_CronField_DAY_OF_WEEK_v97) hZ (hw _ (List.mem_of_getElem? (i := 35) rfl)) (hw _ (List.mem_of_getElem? (i := 3) rfl)) (by decide) (by decide)) q99a q99c (g := (mkF m 148 (LS_IIIRRIIIIIu p0 p1 p2 b1 w_CronField_SECOND (0 : Int32) (59 : Int32) x7 (0 : Int32) x7) [(.int x7), (.ref w_CronField_SECOND)])) rfl (by rw [hml]; rfl) (Steps.refl _) (argsL := [(.int x7)]) (rest := []) (lenOf pd__I_I rfl) rfl (by show 2 * 0 + _ ≤ _; exact Nat.le_of_eq rfl) (hb hby at_148) (fun _ _ => ⟨rfl, e98, (by decide : 1 + 0 ≤ _), (by decide : 6 + 0 ≤ _)⟩)
        dsimp only [Pt.U, Pt.locs, Pt.cells, Pt.slots] at X99 l99 y99 z99 st99 hQ99
        subst l99 y99 z99
        obtain ⟨rfl, N99q, e99⟩ := hQ99
        have N99 := Fr.app N94 N99q
        refine own_go (B := T99.setTop (mkF m 151 (LS_IIIRRIIIIIu p0 p1 p2 b1 w_CronField_SECOND (0 : Int32) (59 : Int32) x7 (0 : Int32) x7) [(.int (if w_CronField_SECOND = w_CronField_DAY_OF_WEEK then (if x7 = (7 : Int32) then (0 : Int32) else x7) else x7))])) (fun t k => st99.trans k) ?_
        rw [show (if w_CronField_SECOND = w_CronField_DAY_OF_WEEK then (if x7 = (7 : Int32) then (0 : Int32) else x7) else x7) = x7 from if_neg (Fld.ne F_CronField_SECOND_ordinal F_CronField_DAY_OF_WEEK_ordinal (by decide))]
        refine own_go (B := T99.setTop (mkF m 164 (LS_IIIRRIIIIII p0 p1 p2 b1 w_CronField_SECOND (0 : Int32) (59 : Int32) x7 (0 : Int32) x7 x7) [(.int x7), (.ref w_CronField_SECOND)])) (fun t k => ?_) ?_
        · show Steps p.tables e below (T99.setTop (mkF m 151 (LS_IIIRRIIIIIu p0 p1 p2 b1 w_CronField_SECOND (0 : Int32) (59 : Int32) x7 (0 : Int32) x7) [(.int x7)])) _
          refine XS.istore X99.here hx rfl (hb hby at_151) rfl (l' := (LS_IIIRRIIIIII p0 p1 p2 b1 w_CronField_SECOND (0 : Int32) (59 : Int32) x7 (0 : Int32) x7 x7)) rfl ?_
          show Steps p.tables e below (T99.setTop (mkF m 153 (LS_IIIRRIIIIII p0 p1 p2 b1 w_CronField_SECOND (0 : Int32) (59 : Int32) x7 (0 : Int32) x7 x7) [])) _
          refine XS.iload X99.here hx rfl (hb hby at_153) rfl ?_
          show Steps p.tables e below (T99.setTop (mkF m 155 (LS_IIIRRIIIIII p0 p1 p2 b1 w_CronField_SECOND (0 : Int32) (59 : Int32) x7 (0 : Int32) x7 x7) [(.int x7)])) _
          refine XS.iload X99.here hx rfl (hb hby at_155) rfl ?_
          show Steps p.tables e below (T99.setTop (mkF m 157 (LS_IIIRRIIIIII p0 p1 p2 b1 w_CronField_SECOND (0 : Int32) (59 : Int32) x7 (0 : Int32) x7 x7) [(.int x7), (.int x7)])) _
          refine XS.icmpNo X99.here hx rfl (hb hby at_157) rfl (teq (rfl : x7 = x7)).2 ?_
          show Steps p.tables e below (T99.setTop (mkF m 160 (LS_IIIRRIIIIII p0 p1 p2 b1 w_CronField_SECOND (0 : Int32) (59 : Int32) x7 (0 : Int32) x7 x7) [])) _
          refine XS.aload X99.here hx rfl (hb hby at_160) rfl rfl ?_
          show Steps p.tables e below (T99.setTop (mkF m 162 (LS_IIIRRIIIIII p0 p1 p2 b1 w_CronField_SECOND (0 : Int32) (59 : Int32) x7 (0 : Int32) x7 x7) [(.ref w_CronField_SECOND)])) _
          refine XS.iload X99.here hx rfl (hb hby at_162) rfl ?_
          exact k
        obtain ⟨cq100, kq100, q100a, q100b, q100c⟩ := isOf hZ e99 E_CronField_SECOND_v86
        obtain ⟨_, _, ⟨T100, L100, k100, n100⟩, -, X100, ⟨Lc100, hQ100, l100, y100, z100⟩, st100⟩ := X99.virtualBack hx (y := (⟨"com/example/murray_hill/murrayhill/cron/CronField", "canonical", "(I)I"⟩ : MethodName)) (z := (⟨"com/example/murray_hill/murrayhill/cron/CronField", "canonical", "(I)I"⟩ : MethodName)) hown (mvT hZ (hw _ (List.mem_of_getElem? (i := 31) rfl))) (mvT hZ (hw _ (List.mem_of_getElem? (i := 32) rfl))) (notFace_of_selects (args := #[]) (mvT hZ (hw _ (List.mem_of_getElem? (i := 34) rfl)))) (mvT hZ (hw _ (List.mem_of_getElem? (i := 34) rfl))) (mvT hZ (hw _ (List.mem_of_getElem? (i := 33) rfl))) (by decide) (backOf (W := 0) (rm3 l Z a0 hw [] w_CronField_SECOND x7 w_CronField_DAY_OF_WEEK h55 n0 Z0_v79 S_CronField_DAY_OF_WEEK_v97) hZ (hw _ (List.mem_of_getElem? (i := 35) rfl)) (hw _ (List.mem_of_getElem? (i := 3) rfl)) (by decide) (by decide)) q100a q100c (g := (mkF m 164 (LS_IIIRRIIIIII p0 p1 p2 b1 w_CronField_SECOND (0 : Int32) (59 : Int32) x7 (0 : Int32) x7 x7) [(.int x7), (.ref w_CronField_SECOND)])) rfl (by rw [hml]; rfl) (Steps.refl _) (argsL := [(.int x7)]) (rest := []) (lenOf pd__I_I rfl) rfl (by show 2 * 0 + _ ≤ _; exact Nat.le_of_eq rfl) (hb hby at_164) (fun _ _ => ⟨rfl, e99, (by decide : 1 + 0 ≤ _), (by decide : 6 + 0 ≤ _)⟩)
        dsimp only [Pt.U, Pt.locs, Pt.cells, Pt.slots] at X100 l100 y100 z100 st100 hQ100
        subst l100 y100 z100
        obtain ⟨rfl, N100q, e100⟩ := hQ100
        have N100 := Fr.app N99 N100q
        refine own_go (B := T100.setTop (mkF m 167 (LS_IIIRRIIIIII p0 p1 p2 b1 w_CronField_SECOND (0 : Int32) (59 : Int32) x7 (0 : Int32) x7 x7) [(.int (if w_CronField_SECOND = w_CronField_DAY_OF_WEEK then (if x7 = (7 : Int32) then (0 : Int32) else x7) else x7))])) (fun t k => st100.trans k) ?_
        rw [show (if w_CronField_SECOND = w_CronField_DAY_OF_WEEK then (if x7 = (7 : Int32) then (0 : Int32) else x7) else x7) = x7 from if_neg (Fld.ne F_CronField_SECOND_ordinal F_CronField_DAY_OF_WEEK_ordinal (by decide))]
        refine own_go (B := T100.setTop (mkF m 177 (LS_IIIRRIIIIII p0 p1 p2 b1 w_CronField_SECOND (0 : Int32) (59 : Int32) x7 (0 : Int32) x7 x7) [(.int (1 : Int32))])) (fun t k => ?_) ?_
        · show Steps p.tables e below (T100.setTop (mkF m 167 (LS_IIIRRIIIIII p0 p1 p2 b1 w_CronField_SECOND (0 : Int32) (59 : Int32) x7 (0 : Int32) x7 x7) [(.int x7)])) _
          refine XS.iload X100.here hx rfl (hb hby at_167) rfl ?_
          show Steps p.tables e below (T100.setTop (mkF m 169 (LS_IIIRRIIIIII p0 p1 p2 b1 w_CronField_SECOND (0 : Int32) (59 : Int32) x7 (0 : Int32) x7 x7) [(.int x7), (.int x7)])) _
          refine XS.icmpNo X100.here hx rfl (hb hby at_169) rfl (teq (rfl : x7 = x7)).2 ?_
          show Steps p.tables e below (T100.setTop (mkF m 172 (LS_IIIRRIIIIII p0 p1 p2 b1 w_CronField_SECOND (0 : Int32) (59 : Int32) x7 (0 : Int32) x7 x7) [])) _
          refine XS.iconst X100.here hx rfl (hb hby at_172) ?_
          show Steps p.tables e below (T100.setTop (mkF m 173 (LS_IIIRRIIIIII p0 p1 p2 b1 w_CronField_SECOND (0 : Int32) (59 : Int32) x7 (0 : Int32) x7 x7) [(.int (1 : Int32))])) _
          refine XS.goto X100.here hx rfl (pc0 := 173) (pc' := 177) rfl (hb hby at_173) (by decide) (by decide) ?_
          exact k
        obtain ⟨fs, hr, hrun, hended, hW, hsame⟩ := X100.leave (v := some (.int (1 : Int32))) (fun h => by rw [Bd.returns] at h; cases h)
        refine ⟨_, _, ?_, hrun, hended, _, _, rfl, ?_, ⟨_, rfl⟩, hW, hsame.mono (by decide) (by decide)⟩
        · show Steps p.tables e below (T100.setTop (mkF m 177 (LS_IIIRRIIIIII p0 p1 p2 b1 w_CronField_SECOND (0 : Int32) (59 : Int32) x7 (0 : Int32) x7 x7) [(.int (1 : Int32))])) _
          exact retN X100 hx (t := .boolean) Bd.returns (by simp) (hb hby at_177) hr
        · show Q0 Z p0 p1 p2 w_CronField_SECOND w_CronField_MINUTE w_CronField_HOUR w_CronField_DAY_OF_MONTH w_CronField_MONTH w_CronField_DAY_OF_WEEK h0 n0 _ T100.heap _
          rw [e100]
          exact ⟨rfl, N100⟩
      · refine own_go (B := T95.setTop (mkF m 107 (LS_IIIRRIIIuuu p0 p1 p2 b1 w_CronField_SECOND (0 : Int32) (59 : Int32) x7) [(.int (59 : Int32)), (.int x7)])) (fun t k => ?_) ?_
        · show Steps p.tables e below (T95.setTop (mkF m 100 (LS_IIIRRIIIuuu p0 p1 p2 b1 w_CronField_SECOND (0 : Int32) (59 : Int32) x7) [(.int x7), (.int (0 : Int32))])) _
          refine XS.icmpNo X95.here hx rfl (hb hby at_100) rfl (flt hc100_96).2.2.1 ?_
          show Steps p.tables e below (T95.setTop (mkF m 103 (LS_IIIRRIIIuuu p0 p1 p2 b1 w_CronField_SECOND (0 : Int32) (59 : Int32) x7) [])) _
          refine XS.iload X95.here hx rfl (hb hby at_103) rfl ?_
          show Steps p.tables e below (T95.setTop (mkF m 105 (LS_IIIRRIIIuuu p0 p1 p2 b1 w_CronField_SECOND (0 : Int32) (59 : Int32) x7) [(.int x7)])) _
          refine XS.iload X95.here hx rfl (hb hby at_105) rfl ?_
          exact k
        by_cases hc107_101 : (59 : Int32) < x7
        · have S_CronField_DAY_OF_WEEK_v102 := S_CronField_DAY_OF_WEEK_v52.wr W55
          refine own_go (B := T95.setTop (mkF m 119 (LS_IIIRRIIIIuu p0 p1 p2 b1 w_CronField_SECOND (0 : Int32) (59 : Int32) x7 (0 : Int32)) [(.ref w_CronField_SECOND)])) (fun t k => ?_) ?_
          · show Steps p.tables e below (T95.setTop (mkF m 107 (LS_IIIRRIIIuuu p0 p1 p2 b1 w_CronField_SECOND (0 : Int32) (59 : Int32) x7) [(.int (59 : Int32)), (.int x7)])) _
            refine XS.icmpYes X95.here hx rfl (pc0 := 107) (pc' := 114) rfl (hb hby at_107) rfl (tlt hc107_101).2.2.1 (by decide) (by decide) ?_
            show Steps p.tables e below (T95.setTop (mkF m 114 (LS_IIIRRIIIuuu p0 p1 p2 b1 w_CronField_SECOND (0 : Int32) (59 : Int32) x7) [])) _
            refine XS.iconst X95.here hx rfl (hb hby at_114) ?_
            show Steps p.tables e below (T95.setTop (mkF m 115 (LS_IIIRRIIIuuu p0 p1 p2 b1 w_CronField_SECOND (0 : Int32) (59 : Int32) x7) [(.int (0 : Int32))])) _
            refine XS.istore X95.here hx rfl (hb hby at_115) rfl (l' := (LS_IIIRRIIIIuu p0 p1 p2 b1 w_CronField_SECOND (0 : Int32) (59 : Int32) x7 (0 : Int32))) rfl ?_
            show Steps p.tables e below (T95.setTop (mkF m 117 (LS_IIIRRIIIIuu p0 p1 p2 b1 w_CronField_SECOND (0 : Int32) (59 : Int32) x7 (0 : Int32)) [])) _
            refine XS.aload X95.here hx rfl (hb hby at_117) rfl rfl ?_
            exact k
          obtain ⟨T103, X103, e103, st103⟩ := getS2 X95 hx hZ hown (host := "") (Or.inl (hw _ (List.mem_of_getElem? (i := 14) rfl))) Via.refl e95 S_CronField_DAY_OF_WEEK_v102 (g := (mkF m 119 (LS_IIIRRIIIIuu p0 p1 p2 b1 w_CronField_SECOND (0 : Int32) (59 : Int32) x7 (0 : Int32)) [(.ref w_CronField_SECOND)])) rfl (hb hby at_119)
          refine own_go (B := T103.setTop (mkF m 122 (LS_IIIRRIIIIuu p0 p1 p2 b1 w_CronField_SECOND (0 : Int32) (59 : Int32) x7 (0 : Int32)) [(.ref w_CronField_DAY_OF_WEEK), (.ref w_CronField_SECOND)])) (fun t k => st103 _ k) ?_
          refine own_go (B := T103.setTop (mkF m 148 (LS_IIIRRIIIIIu p0 p1 p2 b1 w_CronField_SECOND (0 : Int32) (59 : Int32) x7 (0 : Int32) x7) [(.int x7), (.ref w_CronField_SECOND)])) (fun t k => ?_) ?_
          · show Steps p.tables e below (T103.setTop (mkF m 122 (LS_IIIRRIIIIuu p0 p1 p2 b1 w_CronField_SECOND (0 : Int32) (59 : Int32) x7 (0 : Int32)) [(.ref w_CronField_DAY_OF_WEEK), (.ref w_CronField_SECOND)])) _
            refine Jvm.RoadKit.acmp (g := (mkF m 122 (LS_IIIRRIIIIuu p0 p1 p2 b1 w_CronField_SECOND (0 : Int32) (59 : Int32) x7 (0 : Int32)) [(.ref w_CronField_DAY_OF_WEEK), (.ref w_CronField_SECOND)])) X103 hx rfl rfl rfl (pc0 := 122) (pc' := 140) (same := false) rfl (hb hby at_122) rfl (decide_eq_false fun q => (Fld.ne F_CronField_SECOND_ordinal F_CronField_DAY_OF_WEEK_ordinal (by decide)) (Value.ref.inj q)) (by decide) (by decide) ?_
            show Steps p.tables e below (T103.setTop (mkF m 140 (LS_IIIRRIIIIuu p0 p1 p2 b1 w_CronField_SECOND (0 : Int32) (59 : Int32) x7 (0 : Int32)) [])) _
            refine XS.iload X103.here hx rfl (hb hby at_140) rfl ?_
            show Steps p.tables e below (T103.setTop (mkF m 142 (LS_IIIRRIIIIuu p0 p1 p2 b1 w_CronField_SECOND (0 : Int32) (59 : Int32) x7 (0 : Int32)) [(.int x7)])) _
            refine XS.istore X103.here hx rfl (hb hby at_142) rfl (l' := (LS_IIIRRIIIIIu p0 p1 p2 b1 w_CronField_SECOND (0 : Int32) (59 : Int32) x7 (0 : Int32) x7)) rfl ?_
            show Steps p.tables e below (T103.setTop (mkF m 144 (LS_IIIRRIIIIIu p0 p1 p2 b1 w_CronField_SECOND (0 : Int32) (59 : Int32) x7 (0 : Int32) x7) [])) _
            refine XS.aload X103.here hx rfl (hb hby at_144) rfl rfl ?_
            show Steps p.tables e below (T103.setTop (mkF m 146 (LS_IIIRRIIIIIu p0 p1 p2 b1 w_CronField_SECOND (0 : Int32) (59 : Int32) x7 (0 : Int32) x7) [(.ref w_CronField_SECOND)])) _
            refine XS.iload X103.here hx rfl (hb hby at_146) rfl ?_
            exact k
          obtain ⟨cq104, kq104, q104a, q104b, q104c⟩ := isOf hZ e103 E_CronField_SECOND_v86
          obtain ⟨_, _, ⟨T104, L104, k104, n104⟩, -, X104, ⟨Lc104, hQ104, l104, y104, z104⟩, st104⟩ := X103.virtualBack hx (y := (⟨"com/example/murray_hill/murrayhill/cron/CronField", "canonical", "(I)I"⟩ : MethodName)) (z := (⟨"com/example/murray_hill/murrayhill/cron/CronField", "canonical", "(I)I"⟩ : MethodName)) hown (mvT hZ (hw _ (List.mem_of_getElem? (i := 31) rfl))) (mvT hZ (hw _ (List.mem_of_getElem? (i := 32) rfl))) (notFace_of_selects (args := #[]) (mvT hZ (hw _ (List.mem_of_getElem? (i := 34) rfl)))) (mvT hZ (hw _ (List.mem_of_getElem? (i := 34) rfl))) (mvT hZ (hw _ (List.mem_of_getElem? (i := 33) rfl))) (by decide) (backOf (W := 0) (rm3 l Z a0 hw [] w_CronField_SECOND x7 w_CronField_DAY_OF_WEEK h55 n0 Z0_v79 S_CronField_DAY_OF_WEEK_v102) hZ (hw _ (List.mem_of_getElem? (i := 35) rfl)) (hw _ (List.mem_of_getElem? (i := 3) rfl)) (by decide) (by decide)) q104a q104c (g := (mkF m 148 (LS_IIIRRIIIIIu p0 p1 p2 b1 w_CronField_SECOND (0 : Int32) (59 : Int32) x7 (0 : Int32) x7) [(.int x7), (.ref w_CronField_SECOND)])) rfl (by rw [hml]; rfl) (Steps.refl _) (argsL := [(.int x7)]) (rest := []) (lenOf pd__I_I rfl) rfl (by show 2 * 0 + _ ≤ _; exact Nat.le_of_eq rfl) (hb hby at_148) (fun _ _ => ⟨rfl, e103, (by decide : 1 + 0 ≤ _), (by decide : 6 + 0 ≤ _)⟩)
          dsimp only [Pt.U, Pt.locs, Pt.cells, Pt.slots] at X104 l104 y104 z104 st104 hQ104
          subst l104 y104 z104
          obtain ⟨rfl, N104q, e104⟩ := hQ104
          have N104 := Fr.app N94 N104q
          refine own_go (B := T104.setTop (mkF m 151 (LS_IIIRRIIIIIu p0 p1 p2 b1 w_CronField_SECOND (0 : Int32) (59 : Int32) x7 (0 : Int32) x7) [(.int (if w_CronField_SECOND = w_CronField_DAY_OF_WEEK then (if x7 = (7 : Int32) then (0 : Int32) else x7) else x7))])) (fun t k => st104.trans k) ?_
          rw [show (if w_CronField_SECOND = w_CronField_DAY_OF_WEEK then (if x7 = (7 : Int32) then (0 : Int32) else x7) else x7) = x7 from if_neg (Fld.ne F_CronField_SECOND_ordinal F_CronField_DAY_OF_WEEK_ordinal (by decide))]
          refine own_go (B := T104.setTop (mkF m 164 (LS_IIIRRIIIIII p0 p1 p2 b1 w_CronField_SECOND (0 : Int32) (59 : Int32) x7 (0 : Int32) x7 x7) [(.int x7), (.ref w_CronField_SECOND)])) (fun t k => ?_) ?_
          · show Steps p.tables e below (T104.setTop (mkF m 151 (LS_IIIRRIIIIIu p0 p1 p2 b1 w_CronField_SECOND (0 : Int32) (59 : Int32) x7 (0 : Int32) x7) [(.int x7)])) _
            refine XS.istore X104.here hx rfl (hb hby at_151) rfl (l' := (LS_IIIRRIIIIII p0 p1 p2 b1 w_CronField_SECOND (0 : Int32) (59 : Int32) x7 (0 : Int32) x7 x7)) rfl ?_
            show Steps p.tables e below (T104.setTop (mkF m 153 (LS_IIIRRIIIIII p0 p1 p2 b1 w_CronField_SECOND (0 : Int32) (59 : Int32) x7 (0 : Int32) x7 x7) [])) _
            refine XS.iload X104.here hx rfl (hb hby at_153) rfl ?_
            show Steps p.tables e below (T104.setTop (mkF m 155 (LS_IIIRRIIIIII p0 p1 p2 b1 w_CronField_SECOND (0 : Int32) (59 : Int32) x7 (0 : Int32) x7 x7) [(.int x7)])) _
            refine XS.iload X104.here hx rfl (hb hby at_155) rfl ?_
            show Steps p.tables e below (T104.setTop (mkF m 157 (LS_IIIRRIIIIII p0 p1 p2 b1 w_CronField_SECOND (0 : Int32) (59 : Int32) x7 (0 : Int32) x7 x7) [(.int x7), (.int x7)])) _
            refine XS.icmpNo X104.here hx rfl (hb hby at_157) rfl (teq (rfl : x7 = x7)).2 ?_
            show Steps p.tables e below (T104.setTop (mkF m 160 (LS_IIIRRIIIIII p0 p1 p2 b1 w_CronField_SECOND (0 : Int32) (59 : Int32) x7 (0 : Int32) x7 x7) [])) _
            refine XS.aload X104.here hx rfl (hb hby at_160) rfl rfl ?_
            show Steps p.tables e below (T104.setTop (mkF m 162 (LS_IIIRRIIIIII p0 p1 p2 b1 w_CronField_SECOND (0 : Int32) (59 : Int32) x7 (0 : Int32) x7 x7) [(.ref w_CronField_SECOND)])) _
            refine XS.iload X104.here hx rfl (hb hby at_162) rfl ?_
            exact k
          obtain ⟨cq105, kq105, q105a, q105b, q105c⟩ := isOf hZ e104 E_CronField_SECOND_v86
          obtain ⟨_, _, ⟨T105, L105, k105, n105⟩, -, X105, ⟨Lc105, hQ105, l105, y105, z105⟩, st105⟩ := X104.virtualBack hx (y := (⟨"com/example/murray_hill/murrayhill/cron/CronField", "canonical", "(I)I"⟩ : MethodName)) (z := (⟨"com/example/murray_hill/murrayhill/cron/CronField", "canonical", "(I)I"⟩ : MethodName)) hown (mvT hZ (hw _ (List.mem_of_getElem? (i := 31) rfl))) (mvT hZ (hw _ (List.mem_of_getElem? (i := 32) rfl))) (notFace_of_selects (args := #[]) (mvT hZ (hw _ (List.mem_of_getElem? (i := 34) rfl)))) (mvT hZ (hw _ (List.mem_of_getElem? (i := 34) rfl))) (mvT hZ (hw _ (List.mem_of_getElem? (i := 33) rfl))) (by decide) (backOf (W := 0) (rm3 l Z a0 hw [] w_CronField_SECOND x7 w_CronField_DAY_OF_WEEK h55 n0 Z0_v79 S_CronField_DAY_OF_WEEK_v102) hZ (hw _ (List.mem_of_getElem? (i := 35) rfl)) (hw _ (List.mem_of_getElem? (i := 3) rfl)) (by decide) (by decide)) q105a q105c (g := (mkF m 164 (LS_IIIRRIIIIII p0 p1 p2 b1 w_CronField_SECOND (0 : Int32) (59 : Int32) x7 (0 : Int32) x7 x7) [(.int x7), (.ref w_CronField_SECOND)])) rfl (by rw [hml]; rfl) (Steps.refl _) (argsL := [(.int x7)]) (rest := []) (lenOf pd__I_I rfl) rfl (by show 2 * 0 + _ ≤ _; exact Nat.le_of_eq rfl) (hb hby at_164) (fun _ _ => ⟨rfl, e104, (by decide : 1 + 0 ≤ _), (by decide : 6 + 0 ≤ _)⟩)
          dsimp only [Pt.U, Pt.locs, Pt.cells, Pt.slots] at X105 l105 y105 z105 st105 hQ105
          subst l105 y105 z105
          obtain ⟨rfl, N105q, e105⟩ := hQ105
          have N105 := Fr.app N104 N105q
          refine own_go (B := T105.setTop (mkF m 167 (LS_IIIRRIIIIII p0 p1 p2 b1 w_CronField_SECOND (0 : Int32) (59 : Int32) x7 (0 : Int32) x7 x7) [(.int (if w_CronField_SECOND = w_CronField_DAY_OF_WEEK then (if x7 = (7 : Int32) then (0 : Int32) else x7) else x7))])) (fun t k => st105.trans k) ?_
          rw [show (if w_CronField_SECOND = w_CronField_DAY_OF_WEEK then (if x7 = (7 : Int32) then (0 : Int32) else x7) else x7) = x7 from if_neg (Fld.ne F_CronField_SECOND_ordinal F_CronField_DAY_OF_WEEK_ordinal (by decide))]
          refine own_go (B := T105.setTop (mkF m 177 (LS_IIIRRIIIIII p0 p1 p2 b1 w_CronField_SECOND (0 : Int32) (59 : Int32) x7 (0 : Int32) x7 x7) [(.int (1 : Int32))])) (fun t k => ?_) ?_
          · show Steps p.tables e below (T105.setTop (mkF m 167 (LS_IIIRRIIIIII p0 p1 p2 b1 w_CronField_SECOND (0 : Int32) (59 : Int32) x7 (0 : Int32) x7 x7) [(.int x7)])) _
            refine XS.iload X105.here hx rfl (hb hby at_167) rfl ?_
            show Steps p.tables e below (T105.setTop (mkF m 169 (LS_IIIRRIIIIII p0 p1 p2 b1 w_CronField_SECOND (0 : Int32) (59 : Int32) x7 (0 : Int32) x7 x7) [(.int x7), (.int x7)])) _
            refine XS.icmpNo X105.here hx rfl (hb hby at_169) rfl (teq (rfl : x7 = x7)).2 ?_
            show Steps p.tables e below (T105.setTop (mkF m 172 (LS_IIIRRIIIIII p0 p1 p2 b1 w_CronField_SECOND (0 : Int32) (59 : Int32) x7 (0 : Int32) x7 x7) [])) _
            refine XS.iconst X105.here hx rfl (hb hby at_172) ?_
            show Steps p.tables e below (T105.setTop (mkF m 173 (LS_IIIRRIIIIII p0 p1 p2 b1 w_CronField_SECOND (0 : Int32) (59 : Int32) x7 (0 : Int32) x7 x7) [(.int (1 : Int32))])) _
            refine XS.goto X105.here hx rfl (pc0 := 173) (pc' := 177) rfl (hb hby at_173) (by decide) (by decide) ?_
            exact k
          obtain ⟨fs, hr, hrun, hended, hW, hsame⟩ := X105.leave (v := some (.int (1 : Int32))) (fun h => by rw [Bd.returns] at h; cases h)
          refine ⟨_, _, ?_, hrun, hended, _, _, rfl, ?_, ⟨_, rfl⟩, hW, hsame.mono (by decide) (by decide)⟩
          · show Steps p.tables e below (T105.setTop (mkF m 177 (LS_IIIRRIIIIII p0 p1 p2 b1 w_CronField_SECOND (0 : Int32) (59 : Int32) x7 (0 : Int32) x7 x7) [(.int (1 : Int32))])) _
            exact retN X105 hx (t := .boolean) Bd.returns (by simp) (hb hby at_177) hr
          · show Q0 Z p0 p1 p2 w_CronField_SECOND w_CronField_MINUTE w_CronField_HOUR w_CronField_DAY_OF_MONTH w_CronField_MONTH w_CronField_DAY_OF_WEEK h0 n0 _ T105.heap _
            rw [e105]
            exact ⟨rfl, N105⟩
        · have S_CronField_DAY_OF_WEEK_v106 := S_CronField_DAY_OF_WEEK_v52.wr W55
          refine own_go (B := T95.setTop (mkF m 119 (LS_IIIRRIIIIuu p0 p1 p2 b1 w_CronField_SECOND (0 : Int32) (59 : Int32) x7 (1 : Int32)) [(.ref w_CronField_SECOND)])) (fun t k => ?_) ?_
          · show Steps p.tables e below (T95.setTop (mkF m 107 (LS_IIIRRIIIuuu p0 p1 p2 b1 w_CronField_SECOND (0 : Int32) (59 : Int32) x7) [(.int (59 : Int32)), (.int x7)])) _
            refine XS.icmpNo X95.here hx rfl (hb hby at_107) rfl (flt hc107_101).2.2.1 ?_
            show Steps p.tables e below (T95.setTop (mkF m 110 (LS_IIIRRIIIuuu p0 p1 p2 b1 w_CronField_SECOND (0 : Int32) (59 : Int32) x7) [])) _
            refine XS.iconst X95.here hx rfl (hb hby at_110) ?_
            show Steps p.tables e below (T95.setTop (mkF m 111 (LS_IIIRRIIIuuu p0 p1 p2 b1 w_CronField_SECOND (0 : Int32) (59 : Int32) x7) [(.int (1 : Int32))])) _
            refine XS.goto X95.here hx rfl (pc0 := 111) (pc' := 115) rfl (hb hby at_111) (by decide) (by decide) ?_
            show Steps p.tables e below (T95.setTop (mkF m 115 (LS_IIIRRIIIuuu p0 p1 p2 b1 w_CronField_SECOND (0 : Int32) (59 : Int32) x7) [(.int (1 : Int32))])) _
            refine XS.istore X95.here hx rfl (hb hby at_115) rfl (l' := (LS_IIIRRIIIIuu p0 p1 p2 b1 w_CronField_SECOND (0 : Int32) (59 : Int32) x7 (1 : Int32))) rfl ?_
            show Steps p.tables e below (T95.setTop (mkF m 117 (LS_IIIRRIIIIuu p0 p1 p2 b1 w_CronField_SECOND (0 : Int32) (59 : Int32) x7 (1 : Int32)) [])) _
            refine XS.aload X95.here hx rfl (hb hby at_117) rfl rfl ?_
            exact k
          obtain ⟨T107, X107, e107, st107⟩ := getS2 X95 hx hZ hown (host := "") (Or.inl (hw _ (List.mem_of_getElem? (i := 14) rfl))) Via.refl e95 S_CronField_DAY_OF_WEEK_v106 (g := (mkF m 119 (LS_IIIRRIIIIuu p0 p1 p2 b1 w_CronField_SECOND (0 : Int32) (59 : Int32) x7 (1 : Int32)) [(.ref w_CronField_SECOND)])) rfl (hb hby at_119)
          refine own_go (B := T107.setTop (mkF m 122 (LS_IIIRRIIIIuu p0 p1 p2 b1 w_CronField_SECOND (0 : Int32) (59 : Int32) x7 (1 : Int32)) [(.ref w_CronField_DAY_OF_WEEK), (.ref w_CronField_SECOND)])) (fun t k => st107 _ k) ?_
          refine own_go (B := T107.setTop (mkF m 148 (LS_IIIRRIIIIIu p0 p1 p2 b1 w_CronField_SECOND (0 : Int32) (59 : Int32) x7 (1 : Int32) x7) [(.int x7), (.ref w_CronField_SECOND)])) (fun t k => ?_) ?_
          · show Steps p.tables e below (T107.setTop (mkF m 122 (LS_IIIRRIIIIuu p0 p1 p2 b1 w_CronField_SECOND (0 : Int32) (59 : Int32) x7 (1 : Int32)) [(.ref w_CronField_DAY_OF_WEEK), (.ref w_CronField_SECOND)])) _
            refine Jvm.RoadKit.acmp (g := (mkF m 122 (LS_IIIRRIIIIuu p0 p1 p2 b1 w_CronField_SECOND (0 : Int32) (59 : Int32) x7 (1 : Int32)) [(.ref w_CronField_DAY_OF_WEEK), (.ref w_CronField_SECOND)])) X107 hx rfl rfl rfl (pc0 := 122) (pc' := 140) (same := false) rfl (hb hby at_122) rfl (decide_eq_false fun q => (Fld.ne F_CronField_SECOND_ordinal F_CronField_DAY_OF_WEEK_ordinal (by decide)) (Value.ref.inj q)) (by decide) (by decide) ?_
            show Steps p.tables e below (T107.setTop (mkF m 140 (LS_IIIRRIIIIuu p0 p1 p2 b1 w_CronField_SECOND (0 : Int32) (59 : Int32) x7 (1 : Int32)) [])) _
            refine XS.iload X107.here hx rfl (hb hby at_140) rfl ?_
            show Steps p.tables e below (T107.setTop (mkF m 142 (LS_IIIRRIIIIuu p0 p1 p2 b1 w_CronField_SECOND (0 : Int32) (59 : Int32) x7 (1 : Int32)) [(.int x7)])) _
            refine XS.istore X107.here hx rfl (hb hby at_142) rfl (l' := (LS_IIIRRIIIIIu p0 p1 p2 b1 w_CronField_SECOND (0 : Int32) (59 : Int32) x7 (1 : Int32) x7)) rfl ?_
            show Steps p.tables e below (T107.setTop (mkF m 144 (LS_IIIRRIIIIIu p0 p1 p2 b1 w_CronField_SECOND (0 : Int32) (59 : Int32) x7 (1 : Int32) x7) [])) _
            refine XS.aload X107.here hx rfl (hb hby at_144) rfl rfl ?_
            show Steps p.tables e below (T107.setTop (mkF m 146 (LS_IIIRRIIIIIu p0 p1 p2 b1 w_CronField_SECOND (0 : Int32) (59 : Int32) x7 (1 : Int32) x7) [(.ref w_CronField_SECOND)])) _
            refine XS.iload X107.here hx rfl (hb hby at_146) rfl ?_
            exact k
          obtain ⟨cq108, kq108, q108a, q108b, q108c⟩ := isOf hZ e107 E_CronField_SECOND_v86
          obtain ⟨_, _, ⟨T108, L108, k108, n108⟩, -, X108, ⟨Lc108, hQ108, l108, y108, z108⟩, st108⟩ := X107.virtualBack hx (y := (⟨"com/example/murray_hill/murrayhill/cron/CronField", "canonical", "(I)I"⟩ : MethodName)) (z := (⟨"com/example/murray_hill/murrayhill/cron/CronField", "canonical", "(I)I"⟩ : MethodName)) hown (mvT hZ (hw _ (List.mem_of_getElem? (i := 31) rfl))) (mvT hZ (hw _ (List.mem_of_getElem? (i := 32) rfl))) (notFace_of_selects (args := #[]) (mvT hZ (hw _ (List.mem_of_getElem? (i := 34) rfl)))) (mvT hZ (hw _ (List.mem_of_getElem? (i := 34) rfl))) (mvT hZ (hw _ (List.mem_of_getElem? (i := 33) rfl))) (by decide) (backOf (W := 0) (rm3 l Z a0 hw [] w_CronField_SECOND x7 w_CronField_DAY_OF_WEEK h55 n0 Z0_v79 S_CronField_DAY_OF_WEEK_v106) hZ (hw _ (List.mem_of_getElem? (i := 35) rfl)) (hw _ (List.mem_of_getElem? (i := 3) rfl)) (by decide) (by decide)) q108a q108c (g := (mkF m 148 (LS_IIIRRIIIIIu p0 p1 p2 b1 w_CronField_SECOND (0 : Int32) (59 : Int32) x7 (1 : Int32) x7) [(.int x7), (.ref w_CronField_SECOND)])) rfl (by rw [hml]; rfl) (Steps.refl _) (argsL := [(.int x7)]) (rest := []) (lenOf pd__I_I rfl) rfl (by show 2 * 0 + _ ≤ _; exact Nat.le_of_eq rfl) (hb hby at_148) (fun _ _ => ⟨rfl, e107, (by decide : 1 + 0 ≤ _), (by decide : 6 + 0 ≤ _)⟩)
          dsimp only [Pt.U, Pt.locs, Pt.cells, Pt.slots] at X108 l108 y108 z108 st108 hQ108
          subst l108 y108 z108
          obtain ⟨rfl, N108q, e108⟩ := hQ108
          have N108 := Fr.app N94 N108q
          refine own_go (B := T108.setTop (mkF m 151 (LS_IIIRRIIIIIu p0 p1 p2 b1 w_CronField_SECOND (0 : Int32) (59 : Int32) x7 (1 : Int32) x7) [(.int (if w_CronField_SECOND = w_CronField_DAY_OF_WEEK then (if x7 = (7 : Int32) then (0 : Int32) else x7) else x7))])) (fun t k => st108.trans k) ?_
          rw [show (if w_CronField_SECOND = w_CronField_DAY_OF_WEEK then (if x7 = (7 : Int32) then (0 : Int32) else x7) else x7) = x7 from if_neg (Fld.ne F_CronField_SECOND_ordinal F_CronField_DAY_OF_WEEK_ordinal (by decide))]
          refine own_go (B := T108.setTop (mkF m 164 (LS_IIIRRIIIIII p0 p1 p2 b1 w_CronField_SECOND (0 : Int32) (59 : Int32) x7 (1 : Int32) x7 x7) [(.int x7), (.ref w_CronField_SECOND)])) (fun t k => ?_) ?_
          · show Steps p.tables e below (T108.setTop (mkF m 151 (LS_IIIRRIIIIIu p0 p1 p2 b1 w_CronField_SECOND (0 : Int32) (59 : Int32) x7 (1 : Int32) x7) [(.int x7)])) _
            refine XS.istore X108.here hx rfl (hb hby at_151) rfl (l' := (LS_IIIRRIIIIII p0 p1 p2 b1 w_CronField_SECOND (0 : Int32) (59 : Int32) x7 (1 : Int32) x7 x7)) rfl ?_
            show Steps p.tables e below (T108.setTop (mkF m 153 (LS_IIIRRIIIIII p0 p1 p2 b1 w_CronField_SECOND (0 : Int32) (59 : Int32) x7 (1 : Int32) x7 x7) [])) _
            refine XS.iload X108.here hx rfl (hb hby at_153) rfl ?_
            show Steps p.tables e below (T108.setTop (mkF m 155 (LS_IIIRRIIIIII p0 p1 p2 b1 w_CronField_SECOND (0 : Int32) (59 : Int32) x7 (1 : Int32) x7 x7) [(.int x7)])) _
            refine XS.iload X108.here hx rfl (hb hby at_155) rfl ?_
            show Steps p.tables e below (T108.setTop (mkF m 157 (LS_IIIRRIIIIII p0 p1 p2 b1 w_CronField_SECOND (0 : Int32) (59 : Int32) x7 (1 : Int32) x7 x7) [(.int x7), (.int x7)])) _
            refine XS.icmpNo X108.here hx rfl (hb hby at_157) rfl (teq (rfl : x7 = x7)).2 ?_
            show Steps p.tables e below (T108.setTop (mkF m 160 (LS_IIIRRIIIIII p0 p1 p2 b1 w_CronField_SECOND (0 : Int32) (59 : Int32) x7 (1 : Int32) x7 x7) [])) _
            refine XS.aload X108.here hx rfl (hb hby at_160) rfl rfl ?_
            show Steps p.tables e below (T108.setTop (mkF m 162 (LS_IIIRRIIIIII p0 p1 p2 b1 w_CronField_SECOND (0 : Int32) (59 : Int32) x7 (1 : Int32) x7 x7) [(.ref w_CronField_SECOND)])) _
            refine XS.iload X108.here hx rfl (hb hby at_162) rfl ?_
            exact k
          obtain ⟨cq109, kq109, q109a, q109b, q109c⟩ := isOf hZ e108 E_CronField_SECOND_v86
          obtain ⟨_, _, ⟨T109, L109, k109, n109⟩, -, X109, ⟨Lc109, hQ109, l109, y109, z109⟩, st109⟩ := X108.virtualBack hx (y := (⟨"com/example/murray_hill/murrayhill/cron/CronField", "canonical", "(I)I"⟩ : MethodName)) (z := (⟨"com/example/murray_hill/murrayhill/cron/CronField", "canonical", "(I)I"⟩ : MethodName)) hown (mvT hZ (hw _ (List.mem_of_getElem? (i := 31) rfl))) (mvT hZ (hw _ (List.mem_of_getElem? (i := 32) rfl))) (notFace_of_selects (args := #[]) (mvT hZ (hw _ (List.mem_of_getElem? (i := 34) rfl)))) (mvT hZ (hw _ (List.mem_of_getElem? (i := 34) rfl))) (mvT hZ (hw _ (List.mem_of_getElem? (i := 33) rfl))) (by decide) (backOf (W := 0) (rm3 l Z a0 hw [] w_CronField_SECOND x7 w_CronField_DAY_OF_WEEK h55 n0 Z0_v79 S_CronField_DAY_OF_WEEK_v106) hZ (hw _ (List.mem_of_getElem? (i := 35) rfl)) (hw _ (List.mem_of_getElem? (i := 3) rfl)) (by decide) (by decide)) q109a q109c (g := (mkF m 164 (LS_IIIRRIIIIII p0 p1 p2 b1 w_CronField_SECOND (0 : Int32) (59 : Int32) x7 (1 : Int32) x7 x7) [(.int x7), (.ref w_CronField_SECOND)])) rfl (by rw [hml]; rfl) (Steps.refl _) (argsL := [(.int x7)]) (rest := []) (lenOf pd__I_I rfl) rfl (by show 2 * 0 + _ ≤ _; exact Nat.le_of_eq rfl) (hb hby at_164) (fun _ _ => ⟨rfl, e108, (by decide : 1 + 0 ≤ _), (by decide : 6 + 0 ≤ _)⟩)
          dsimp only [Pt.U, Pt.locs, Pt.cells, Pt.slots] at X109 l109 y109 z109 st109 hQ109
          subst l109 y109 z109
          obtain ⟨rfl, N109q, e109⟩ := hQ109
          have N109 := Fr.app N108 N109q
          refine own_go (B := T109.setTop (mkF m 167 (LS_IIIRRIIIIII p0 p1 p2 b1 w_CronField_SECOND (0 : Int32) (59 : Int32) x7 (1 : Int32) x7 x7) [(.int (if w_CronField_SECOND = w_CronField_DAY_OF_WEEK then (if x7 = (7 : Int32) then (0 : Int32) else x7) else x7))])) (fun t k => st109.trans k) ?_
          rw [show (if w_CronField_SECOND = w_CronField_DAY_OF_WEEK then (if x7 = (7 : Int32) then (0 : Int32) else x7) else x7) = x7 from if_neg (Fld.ne F_CronField_SECOND_ordinal F_CronField_DAY_OF_WEEK_ordinal (by decide))]
          refine own_go (B := T109.setTop (mkF m 177 (LS_IIIRRIIIIII p0 p1 p2 b1 w_CronField_SECOND (0 : Int32) (59 : Int32) x7 (1 : Int32) x7 x7) [(.int (1 : Int32))])) (fun t k => ?_) ?_
          · show Steps p.tables e below (T109.setTop (mkF m 167 (LS_IIIRRIIIIII p0 p1 p2 b1 w_CronField_SECOND (0 : Int32) (59 : Int32) x7 (1 : Int32) x7 x7) [(.int x7)])) _
            refine XS.iload X109.here hx rfl (hb hby at_167) rfl ?_
            show Steps p.tables e below (T109.setTop (mkF m 169 (LS_IIIRRIIIIII p0 p1 p2 b1 w_CronField_SECOND (0 : Int32) (59 : Int32) x7 (1 : Int32) x7 x7) [(.int x7), (.int x7)])) _
            refine XS.icmpNo X109.here hx rfl (hb hby at_169) rfl (teq (rfl : x7 = x7)).2 ?_
            show Steps p.tables e below (T109.setTop (mkF m 172 (LS_IIIRRIIIIII p0 p1 p2 b1 w_CronField_SECOND (0 : Int32) (59 : Int32) x7 (1 : Int32) x7 x7) [])) _
            refine XS.iconst X109.here hx rfl (hb hby at_172) ?_
            show Steps p.tables e below (T109.setTop (mkF m 173 (LS_IIIRRIIIIII p0 p1 p2 b1 w_CronField_SECOND (0 : Int32) (59 : Int32) x7 (1 : Int32) x7 x7) [(.int (1 : Int32))])) _
            refine XS.goto X109.here hx rfl (pc0 := 173) (pc' := 177) rfl (hb hby at_173) (by decide) (by decide) ?_
            exact k
          obtain ⟨fs, hr, hrun, hended, hW, hsame⟩ := X109.leave (v := some (.int (1 : Int32))) (fun h => by rw [Bd.returns] at h; cases h)
          refine ⟨_, _, ?_, hrun, hended, _, _, rfl, ?_, ⟨_, rfl⟩, hW, hsame.mono (by decide) (by decide)⟩
          · show Steps p.tables e below (T109.setTop (mkF m 177 (LS_IIIRRIIIIII p0 p1 p2 b1 w_CronField_SECOND (0 : Int32) (59 : Int32) x7 (1 : Int32) x7 x7) [(.int (1 : Int32))])) _
            exact retN X109 hx (t := .boolean) Bd.returns (by simp) (hb hby at_177) hr
          · show Q0 Z p0 p1 p2 w_CronField_SECOND w_CronField_MINUTE w_CronField_HOUR w_CronField_DAY_OF_MONTH w_CronField_MONTH w_CronField_DAY_OF_WEEK h0 n0 _ T109.heap _
            rw [e109]
            exact ⟨rfl, N109⟩
    · intro rest95
      refine own_go (B := T94.setTop (mkF m 70 (LS_IIIRRIIuuuu p0 p1 p2 b1 w_CronField_SECOND (0 : Int32) (59 : Int32)) [(.int (p2 &&& (1 : Int32)))])) (fun t k => ?_) ?_
      · show Steps p.tables e below (T94.setTop (mkF m 67 (LS_IIIRRIIuuuu p0 p1 p2 b1 w_CronField_SECOND (0 : Int32) (59 : Int32)) [])) _
        refine XS.iloadN X94.here hx rfl (hb hby at_67) rfl ?_
        show Steps p.tables e below (T94.setTop (mkF m 68 (LS_IIIRRIIuuuu p0 p1 p2 b1 w_CronField_SECOND (0 : Int32) (59 : Int32)) [(.int p2)])) _
        refine XS.iconst X94.here hx rfl (hb hby at_68) ?_
        show Steps p.tables e below (T94.setTop (mkF m 69 (LS_IIIRRIIuuuu p0 p1 p2 b1 w_CronField_SECOND (0 : Int32) (59 : Int32)) [(.int (1 : Int32)), (.int p2)])) _
        refine XS.iand X94.here hx rfl (hb hby at_69) rfl ?_
        exact k
      by_cases hc70_110 : (p2 &&& (1 : Int32)) = (0 : Int32)
      · refine own_go (B := T94.setTop (mkF m 96 (LS_IIIRRIIIuuu p0 p1 p2 b1 w_CronField_SECOND (0 : Int32) (59 : Int32) ((0 : Int32) + ((p1 &&& (2147483647 : Int32)) % (((59 : Int32) - (0 : Int32)) + (1 : Int32))))) [])) (fun t k => ?_) ?_
        · show Steps p.tables e below (T94.setTop (mkF m 70 (LS_IIIRRIIuuuu p0 p1 p2 b1 w_CronField_SECOND (0 : Int32) (59 : Int32)) [(.int (p2 &&& (1 : Int32)))])) _
          refine XS.ifYes X94.here hx rfl (pc0 := 70) (pc' := 79) rfl (hb hby at_70) rfl ((if0 _ _).trans (teq hc70_110).1) (by decide) (by decide) ?_
          show Steps p.tables e below (T94.setTop (mkF m 79 (LS_IIIRRIIuuuu p0 p1 p2 b1 w_CronField_SECOND (0 : Int32) (59 : Int32)) [])) _
          refine XS.iload X94.here hx rfl (hb hby at_79) rfl ?_
          show Steps p.tables e below (T94.setTop (mkF m 81 (LS_IIIRRIIuuuu p0 p1 p2 b1 w_CronField_SECOND (0 : Int32) (59 : Int32)) [(.int (0 : Int32))])) _
          refine XS.iloadN X94.here hx rfl (hb hby at_81) rfl ?_
          show Steps p.tables e below (T94.setTop (mkF m 82 (LS_IIIRRIIuuuu p0 p1 p2 b1 w_CronField_SECOND (0 : Int32) (59 : Int32)) [(.int p1), (.int (0 : Int32))])) _
          refine X94.ldcInt hx hown (mvT hZ (hw _ (List.mem_of_getElem? (i := 16) rfl))) (g := (mkF m 82 (LS_IIIRRIIuuuu p0 p1 p2 b1 w_CronField_SECOND (0 : Int32) (59 : Int32)) [(.int p1), (.int (0 : Int32))])) rfl (hb hby at_82) _ ?_
          show Steps p.tables e below (T94.setTop (mkF m 84 (LS_IIIRRIIuuuu p0 p1 p2 b1 w_CronField_SECOND (0 : Int32) (59 : Int32)) [(.int (2147483647 : Int32)), (.int p1), (.int (0 : Int32))])) _
          refine XS.iand X94.here hx rfl (hb hby at_84) rfl ?_
          show Steps p.tables e below (T94.setTop (mkF m 85 (LS_IIIRRIIuuuu p0 p1 p2 b1 w_CronField_SECOND (0 : Int32) (59 : Int32)) [(.int (p1 &&& (2147483647 : Int32))), (.int (0 : Int32))])) _
          refine XS.iload X94.here hx rfl (hb hby at_85) rfl ?_
          show Steps p.tables e below (T94.setTop (mkF m 87 (LS_IIIRRIIuuuu p0 p1 p2 b1 w_CronField_SECOND (0 : Int32) (59 : Int32)) [(.int (59 : Int32)), (.int (p1 &&& (2147483647 : Int32))), (.int (0 : Int32))])) _
          refine XS.iload X94.here hx rfl (hb hby at_87) rfl ?_
          show Steps p.tables e below (T94.setTop (mkF m 89 (LS_IIIRRIIuuuu p0 p1 p2 b1 w_CronField_SECOND (0 : Int32) (59 : Int32)) [(.int (0 : Int32)), (.int (59 : Int32)), (.int (p1 &&& (2147483647 : Int32))), (.int (0 : Int32))])) _
          refine XS.isub X94.here hx rfl (hb hby at_89) rfl ?_
          show Steps p.tables e below (T94.setTop (mkF m 90 (LS_IIIRRIIuuuu p0 p1 p2 b1 w_CronField_SECOND (0 : Int32) (59 : Int32)) [(.int ((59 : Int32) - (0 : Int32))), (.int (p1 &&& (2147483647 : Int32))), (.int (0 : Int32))])) _
          refine XS.iconst X94.here hx rfl (hb hby at_90) ?_
          show Steps p.tables e below (T94.setTop (mkF m 91 (LS_IIIRRIIuuuu p0 p1 p2 b1 w_CronField_SECOND (0 : Int32) (59 : Int32)) [(.int (1 : Int32)), (.int ((59 : Int32) - (0 : Int32))), (.int (p1 &&& (2147483647 : Int32))), (.int (0 : Int32))])) _
          refine XS.iadd X94.here hx rfl (hb hby at_91) rfl ?_
          show Steps p.tables e below (T94.setTop (mkF m 92 (LS_IIIRRIIuuuu p0 p1 p2 b1 w_CronField_SECOND (0 : Int32) (59 : Int32)) [(.int (((59 : Int32) - (0 : Int32)) + (1 : Int32))), (.int (p1 &&& (2147483647 : Int32))), (.int (0 : Int32))])) _
          refine Jvm.RoadKit.iremM X94 hx rfl (hb hby at_92) rfl (by decide) ?_
          show Steps p.tables e below (T94.setTop (mkF m 93 (LS_IIIRRIIuuuu p0 p1 p2 b1 w_CronField_SECOND (0 : Int32) (59 : Int32)) [(.int ((p1 &&& (2147483647 : Int32)) % (((59 : Int32) - (0 : Int32)) + (1 : Int32)))), (.int (0 : Int32))])) _
          refine XS.iadd X94.here hx rfl (hb hby at_93) rfl ?_
          show Steps p.tables e below (T94.setTop (mkF m 94 (LS_IIIRRIIuuuu p0 p1 p2 b1 w_CronField_SECOND (0 : Int32) (59 : Int32)) [(.int ((0 : Int32) + ((p1 &&& (2147483647 : Int32)) % (((59 : Int32) - (0 : Int32)) + (1 : Int32)))))])) _
          refine XS.istore X94.here hx rfl (hb hby at_94) rfl (l' := (LS_IIIRRIIIuuu p0 p1 p2 b1 w_CronField_SECOND (0 : Int32) (59 : Int32) ((0 : Int32) + ((p1 &&& (2147483647 : Int32)) % (((59 : Int32) - (0 : Int32)) + (1 : Int32)))))) rfl ?_
          exact k
        exact rest95 ((0 : Int32) + ((p1 &&& (2147483647 : Int32)) % (((59 : Int32) - (0 : Int32)) + (1 : Int32)))) _ X94 e94
      · refine own_go (B := T94.setTop (mkF m 96 (LS_IIIRRIIIuuu p0 p1 p2 b1 w_CronField_SECOND (0 : Int32) (59 : Int32) p1) [])) (fun t k => ?_) ?_
        · show Steps p.tables e below (T94.setTop (mkF m 70 (LS_IIIRRIIuuuu p0 p1 p2 b1 w_CronField_SECOND (0 : Int32) (59 : Int32)) [(.int (p2 &&& (1 : Int32)))])) _
          refine XS.ifNo X94.here hx rfl (hb hby at_70) rfl ((if0 _ _).trans (feq hc70_110).1) ?_
          show Steps p.tables e below (T94.setTop (mkF m 73 (LS_IIIRRIIuuuu p0 p1 p2 b1 w_CronField_SECOND (0 : Int32) (59 : Int32)) [])) _
          refine XS.iloadN X94.here hx rfl (hb hby at_73) rfl ?_
          show Steps p.tables e below (T94.setTop (mkF m 74 (LS_IIIRRIIuuuu p0 p1 p2 b1 w_CronField_SECOND (0 : Int32) (59 : Int32)) [(.int p1)])) _
          refine XS.istore X94.here hx rfl (hb hby at_74) rfl (l' := (LS_IIIRRIIIuuu p0 p1 p2 b1 w_CronField_SECOND (0 : Int32) (59 : Int32) p1)) rfl ?_
          show Steps p.tables e below (T94.setTop (mkF m 76 (LS_IIIRRIIIuuu p0 p1 p2 b1 w_CronField_SECOND (0 : Int32) (59 : Int32) p1) [])) _
          refine XS.goto X94.here hx rfl (pc0 := 76) (pc' := 96) rfl (hb hby at_76) (by decide) (by decide) ?_
          exact k
        exact rest95 p1 _ X94 e94
  · rw [hk62]
    obtain ⟨cl111, Ar111, qa111, Sa111, Na111, Ha111, Ga111⟩ := V55
    have hin112 : ¬ ((1 : Int32) < 0 ∨ cl111.slots.size ≤ ((1 : Int32)).toNatClampNeg) := inb_of Sa111 ⟨by decide, by decide⟩
    have hat112 : cl111.slots[((1 : Int32)).toNatClampNeg]? = some (.ref w_CronField_MINUTE) := Has.at Ha111 hin112 rfl
    refine own_go (B := T55.setTop (mkF m 55 (LS_IIIRRuuuuuu p0 p1 p2 b1 w_CronField_MINUTE) [(.ref w_CronField_MINUTE)])) (fun t k => ?_) ?_
    · show Steps p.tables e below (T55.setTop (mkF m 50 (LS_IIIRuuuuuuu p0 p1 p2 b1) [(.int (1 : Int32)), (.ref b1)])) _
      refine X55.aaload hx (j := (1 : Int32)) (v := (.ref w_CronField_MINUTE)) (by rw [e55]; exact Ar111.1) (State.isArrayOf_alike hZ.alike Ar111.2.1) rfl Ar111.2.2 hin112 hat112 (g := (mkF m 50 (LS_IIIRuuuuuuu p0 p1 p2 b1) [(.int (1 : Int32)), (.ref b1)])) rfl rfl (hb hby at_50) _ ?_
      show Steps p.tables e below (T55.setTop (mkF m 51 (LS_IIIRuuuuuuu p0 p1 p2 b1) [(.ref w_CronField_MINUTE)])) _
      refine XS.astore X55.here hx rfl (hb hby at_51) rfl rfl (l' := (LS_IIIRRuuuuuu p0 p1 p2 b1 w_CronField_MINUTE)) rfl ?_
      show Steps p.tables e below (T55.setTop (mkF m 53 (LS_IIIRRuuuuuu p0 p1 p2 b1 w_CronField_MINUTE) [])) _
      refine XS.aload X55.here hx rfl (hb hby at_53) rfl rfl ?_
      exact k
    have F_CronField_MINUTE_min_v113 := F_CronField_MINUTE_min.ext E1
    have ne115 : w_CronField_MINUTE ≠ b1 := Nat.ne_of_lt (Nat.lt_of_lt_of_le F_CronField_MINUTE_min.lt (Nat.le_of_eq g1.symm))
    have F_CronField_MINUTE_min_v114 := F_CronField_MINUTE_min_v113.other W5 (Or.inl ne115)
    have F_CronField_MINUTE_min_v116 := F_CronField_MINUTE_min_v114.other W11 (Or.inl ne115)
    have F_CronField_MINUTE_min_v117 := F_CronField_MINUTE_min_v116.other W19 (Or.inl ne115)
    have F_CronField_MINUTE_min_v118 := F_CronField_MINUTE_min_v117.other W29 (Or.inl ne115)
    have F_CronField_MINUTE_min_v119 := F_CronField_MINUTE_min_v118.other W41 (Or.inl ne115)
    have F_CronField_MINUTE_min_v120 := F_CronField_MINUTE_min_v119.other W55 (Or.inl ne115)
    have Z0_v121 := Nat.le_trans Z0 E1.1
    have Z0_v122 := Nat.le_trans Z0_v121 (Nat.le_of_eq W5.size.symm)
    have Z0_v123 := Nat.le_trans Z0_v122 (Nat.le_of_eq W11.size.symm)
    have Z0_v124 := Nat.le_trans Z0_v123 (Nat.le_of_eq W19.size.symm)
    have Z0_v125 := Nat.le_trans Z0_v124 (Nat.le_of_eq W29.size.symm)
    have Z0_v126 := Nat.le_trans Z0_v125 (Nat.le_of_eq W41.size.symm)
    have Z0_v127 := Nat.le_trans Z0_v126 (Nat.le_of_eq W55.size.symm)
    have E_CronField_MINUTE_v129 := E_CronField_MINUTE_v13.wr W11
    have E_CronField_MINUTE_v130 := E_CronField_MINUTE_v129.wr W19
    have E_CronField_MINUTE_v131 := E_CronField_MINUTE_v130.wr W29
    have E_CronField_MINUTE_v132 := E_CronField_MINUTE_v131.wr W41
    have E_CronField_MINUTE_v133 := E_CronField_MINUTE_v132.wr W55
    obtain ⟨cq128, kq128, q128a, q128b, q128c⟩ := isOf hZ e55 E_CronField_MINUTE_v133
    obtain ⟨_, _, ⟨T128, L128, k128, n128⟩, -, X128, ⟨Lc128, hQ128, l128, y128, z128⟩, st128⟩ := X55.virtualBack hx (y := (⟨"com/example/murray_hill/murrayhill/cron/CronField", "min", "()I"⟩ : MethodName)) (z := (⟨"com/example/murray_hill/murrayhill/cron/CronField", "min", "()I"⟩ : MethodName)) hown (mvT hZ (hw _ (List.mem_of_getElem? (i := 17) rfl))) (mvT hZ (hw _ (List.mem_of_getElem? (i := 18) rfl))) (notFace_of_selects (args := #[]) (mvT hZ (hw _ (List.mem_of_getElem? (i := 20) rfl)))) (mvT hZ (hw _ (List.mem_of_getElem? (i := 20) rfl))) (mvT hZ (hw _ (List.mem_of_getElem? (i := 19) rfl))) (by decide) (backOf (W := 0) (rm1 l Z a0 hw [] w_CronField_MINUTE (0 : Int32) h55 n0 Z0_v127 F_CronField_MINUTE_min_v120) hZ (hw _ (List.mem_of_getElem? (i := 21) rfl)) (hw _ (List.mem_of_getElem? (i := 3) rfl)) (by decide) (by decide)) q128a q128c (g := (mkF m 55 (LS_IIIRRuuuuuu p0 p1 p2 b1 w_CronField_MINUTE) [(.ref w_CronField_MINUTE)])) rfl (by rw [hml]; rfl) (Steps.refl _) (argsL := []) (rest := []) (lenOf pd___I rfl) rfl (by show 2 * 0 + _ ≤ _; exact Nat.le_of_eq rfl) (hb hby at_55) (fun _ _ => ⟨rfl, e55, (by decide : 1 + 0 ≤ _), (by decide : 6 + 0 ≤ _)⟩)
    dsimp only [Pt.U, Pt.locs, Pt.cells, Pt.slots] at X128 l128 y128 z128 st128 hQ128
    subst l128 y128 z128
    obtain ⟨rfl, N128q, e128⟩ := hQ128
    have N128 := Fr.app N55 N128q
    refine own_go (B := T128.setTop (mkF m 58 (LS_IIIRRuuuuuu p0 p1 p2 b1 w_CronField_MINUTE) [(.int (0 : Int32))])) (fun t k => st128.trans k) ?_
    refine own_go (B := T128.setTop (mkF m 62 (LS_IIIRRIuuuuu p0 p1 p2 b1 w_CronField_MINUTE (0 : Int32)) [(.ref w_CronField_MINUTE)])) (fun t k => ?_) ?_
    · show Steps p.tables e below (T128.setTop (mkF m 58 (LS_IIIRRuuuuuu p0 p1 p2 b1 w_CronField_MINUTE) [(.int (0 : Int32))])) _
      refine XS.istore X128.here hx rfl (hb hby at_58) rfl (l' := (LS_IIIRRIuuuuu p0 p1 p2 b1 w_CronField_MINUTE (0 : Int32))) rfl ?_
      show Steps p.tables e below (T128.setTop (mkF m 60 (LS_IIIRRIuuuuu p0 p1 p2 b1 w_CronField_MINUTE (0 : Int32)) [])) _
      refine XS.aload X128.here hx rfl (hb hby at_60) rfl rfl ?_
      exact k
    have F_CronField_MINUTE_max_v134 := F_CronField_MINUTE_max.ext E1
    have F_CronField_MINUTE_max_v135 := F_CronField_MINUTE_max_v134.other W5 (Or.inl ne115)
    have F_CronField_MINUTE_max_v136 := F_CronField_MINUTE_max_v135.other W11 (Or.inl ne115)
    have F_CronField_MINUTE_max_v137 := F_CronField_MINUTE_max_v136.other W19 (Or.inl ne115)
    have F_CronField_MINUTE_max_v138 := F_CronField_MINUTE_max_v137.other W29 (Or.inl ne115)
    have F_CronField_MINUTE_max_v139 := F_CronField_MINUTE_max_v138.other W41 (Or.inl ne115)
    have F_CronField_MINUTE_max_v140 := F_CronField_MINUTE_max_v139.other W55 (Or.inl ne115)
    obtain ⟨cq141, kq141, q141a, q141b, q141c⟩ := isOf hZ e128 E_CronField_MINUTE_v133
    obtain ⟨_, _, ⟨T141, L141, k141, n141⟩, -, X141, ⟨Lc141, hQ141, l141, y141, z141⟩, st141⟩ := X128.virtualBack hx (y := (⟨"com/example/murray_hill/murrayhill/cron/CronField", "max", "()I"⟩ : MethodName)) (z := (⟨"com/example/murray_hill/murrayhill/cron/CronField", "max", "()I"⟩ : MethodName)) hown (mvT hZ (hw _ (List.mem_of_getElem? (i := 24) rfl))) (mvT hZ (hw _ (List.mem_of_getElem? (i := 25) rfl))) (notFace_of_selects (args := #[]) (mvT hZ (hw _ (List.mem_of_getElem? (i := 27) rfl)))) (mvT hZ (hw _ (List.mem_of_getElem? (i := 27) rfl))) (mvT hZ (hw _ (List.mem_of_getElem? (i := 26) rfl))) (by decide) (backOf (W := 0) (rm2 l Z a0 hw [] w_CronField_MINUTE (59 : Int32) h55 n0 Z0_v127 F_CronField_MINUTE_max_v140) hZ (hw _ (List.mem_of_getElem? (i := 28) rfl)) (hw _ (List.mem_of_getElem? (i := 3) rfl)) (by decide) (by decide)) q141a q141c (g := (mkF m 62 (LS_IIIRRIuuuuu p0 p1 p2 b1 w_CronField_MINUTE (0 : Int32)) [(.ref w_CronField_MINUTE)])) rfl (by rw [hml]; rfl) (Steps.refl _) (argsL := []) (rest := []) (lenOf pd___I rfl) rfl (by show 2 * 0 + _ ≤ _; exact Nat.le_of_eq rfl) (hb hby at_62) (fun _ _ => ⟨rfl, e128, (by decide : 1 + 0 ≤ _), (by decide : 6 + 0 ≤ _)⟩)
    dsimp only [Pt.U, Pt.locs, Pt.cells, Pt.slots] at X141 l141 y141 z141 st141 hQ141
    subst l141 y141 z141
    obtain ⟨rfl, N141q, e141⟩ := hQ141
    have N141 := Fr.app N128 N141q
    refine own_go (B := T141.setTop (mkF m 65 (LS_IIIRRIuuuuu p0 p1 p2 b1 w_CronField_MINUTE (0 : Int32)) [(.int (59 : Int32))])) (fun t k => st141.trans k) ?_
    refine own_go (B := T141.setTop (mkF m 67 (LS_IIIRRIIuuuu p0 p1 p2 b1 w_CronField_MINUTE (0 : Int32) (59 : Int32)) [])) (fun t k => ?_) ?_
    · show Steps p.tables e below (T141.setTop (mkF m 65 (LS_IIIRRIuuuuu p0 p1 p2 b1 w_CronField_MINUTE (0 : Int32)) [(.int (59 : Int32))])) _
      refine XS.istore X141.here hx rfl (hb hby at_65) rfl (l' := (LS_IIIRRIIuuuu p0 p1 p2 b1 w_CronField_MINUTE (0 : Int32) (59 : Int32))) rfl ?_
      exact k
    refine own_join X141 (ι := Int32) (fun i142 T' => T'.heap = h55) (fun i142 => mkF m 96 (LS_IIIRRIIIuuu p0 p1 p2 b1 w_CronField_MINUTE (0 : Int32) (59 : Int32) i142) []) ?_ ?_
    · intro x7 T142 X142 hi142
      have e142 := hi142
      refine own_go (B := T142.setTop (mkF m 100 (LS_IIIRRIIIuuu p0 p1 p2 b1 w_CronField_MINUTE (0 : Int32) (59 : Int32) x7) [(.int x7), (.int (0 : Int32))])) (fun t k => ?_) ?_
      · show Steps p.tables e below (T142.setTop (mkF m 96 (LS_IIIRRIIIuuu p0 p1 p2 b1 w_CronField_MINUTE (0 : Int32) (59 : Int32) x7) [])) _
        refine XS.iload X142.here hx rfl (hb hby at_96) rfl ?_
        show Steps p.tables e below (T142.setTop (mkF m 98 (LS_IIIRRIIIuuu p0 p1 p2 b1 w_CronField_MINUTE (0 : Int32) (59 : Int32) x7) [(.int (0 : Int32))])) _
        refine XS.iload X142.here hx rfl (hb hby at_98) rfl ?_
        exact k
      by_cases hc100_143 : x7 < (0 : Int32)
      · have S_CronField_DAY_OF_WEEK_v144 := S_CronField_DAY_OF_WEEK_v52.wr W55
        refine own_go (B := T142.setTop (mkF m 119 (LS_IIIRRIIIIuu p0 p1 p2 b1 w_CronField_MINUTE (0 : Int32) (59 : Int32) x7 (0 : Int32)) [(.ref w_CronField_MINUTE)])) (fun t k => ?_) ?_
        · show Steps p.tables e below (T142.setTop (mkF m 100 (LS_IIIRRIIIuuu p0 p1 p2 b1 w_CronField_MINUTE (0 : Int32) (59 : Int32) x7) [(.int x7), (.int (0 : Int32))])) _
          refine XS.icmpYes X142.here hx rfl (pc0 := 100) (pc' := 114) rfl (hb hby at_100) rfl (tlt hc100_143).2.2.1 (by decide) (by decide) ?_
          show Steps p.tables e below (T142.setTop (mkF m 114 (LS_IIIRRIIIuuu p0 p1 p2 b1 w_CronField_MINUTE (0 : Int32) (59 : Int32) x7) [])) _
          refine XS.iconst X142.here hx rfl (hb hby at_114) ?_
          show Steps p.tables e below (T142.setTop (mkF m 115 (LS_IIIRRIIIuuu p0 p1 p2 b1 w_CronField_MINUTE (0 : Int32) (59 : Int32) x7) [(.int (0 : Int32))])) _
          refine XS.istore X142.here hx rfl (hb hby at_115) rfl (l' := (LS_IIIRRIIIIuu p0 p1 p2 b1 w_CronField_MINUTE (0 : Int32) (59 : Int32) x7 (0 : Int32))) rfl ?_
          show Steps p.tables e below (T142.setTop (mkF m 117 (LS_IIIRRIIIIuu p0 p1 p2 b1 w_CronField_MINUTE (0 : Int32) (59 : Int32) x7 (0 : Int32)) [])) _
          refine XS.aload X142.here hx rfl (hb hby at_117) rfl rfl ?_
          exact k
        obtain ⟨T145, X145, e145, st145⟩ := getS2 X142 hx hZ hown (host := "") (Or.inl (hw _ (List.mem_of_getElem? (i := 14) rfl))) Via.refl e142 S_CronField_DAY_OF_WEEK_v144 (g := (mkF m 119 (LS_IIIRRIIIIuu p0 p1 p2 b1 w_CronField_MINUTE (0 : Int32) (59 : Int32) x7 (0 : Int32)) [(.ref w_CronField_MINUTE)])) rfl (hb hby at_119)
        refine own_go (B := T145.setTop (mkF m 122 (LS_IIIRRIIIIuu p0 p1 p2 b1 w_CronField_MINUTE (0 : Int32) (59 : Int32) x7 (0 : Int32)) [(.ref w_CronField_DAY_OF_WEEK), (.ref w_CronField_MINUTE)])) (fun t k => st145 _ k) ?_
        refine own_go (B := T145.setTop (mkF m 148 (LS_IIIRRIIIIIu p0 p1 p2 b1 w_CronField_MINUTE (0 : Int32) (59 : Int32) x7 (0 : Int32) x7) [(.int x7), (.ref w_CronField_MINUTE)])) (fun t k => ?_) ?_
        · show Steps p.tables e below (T145.setTop (mkF m 122 (LS_IIIRRIIIIuu p0 p1 p2 b1 w_CronField_MINUTE (0 : Int32) (59 : Int32) x7 (0 : Int32)) [(.ref w_CronField_DAY_OF_WEEK), (.ref w_CronField_MINUTE)])) _
          refine Jvm.RoadKit.acmp (g := (mkF m 122 (LS_IIIRRIIIIuu p0 p1 p2 b1 w_CronField_MINUTE (0 : Int32) (59 : Int32) x7 (0 : Int32)) [(.ref w_CronField_DAY_OF_WEEK), (.ref w_CronField_MINUTE)])) X145 hx rfl rfl rfl (pc0 := 122) (pc' := 140) (same := false) rfl (hb hby at_122) rfl (decide_eq_false fun q => (Fld.ne F_CronField_MINUTE_ordinal F_CronField_DAY_OF_WEEK_ordinal (by decide)) (Value.ref.inj q)) (by decide) (by decide) ?_
          show Steps p.tables e below (T145.setTop (mkF m 140 (LS_IIIRRIIIIuu p0 p1 p2 b1 w_CronField_MINUTE (0 : Int32) (59 : Int32) x7 (0 : Int32)) [])) _
          refine XS.iload X145.here hx rfl (hb hby at_140) rfl ?_
          show Steps p.tables e below (T145.setTop (mkF m 142 (LS_IIIRRIIIIuu p0 p1 p2 b1 w_CronField_MINUTE (0 : Int32) (59 : Int32) x7 (0 : Int32)) [(.int x7)])) _
          refine XS.istore X145.here hx rfl (hb hby at_142) rfl (l' := (LS_IIIRRIIIIIu p0 p1 p2 b1 w_CronField_MINUTE (0 : Int32) (59 : Int32) x7 (0 : Int32) x7)) rfl ?_
          show Steps p.tables e below (T145.setTop (mkF m 144 (LS_IIIRRIIIIIu p0 p1 p2 b1 w_CronField_MINUTE (0 : Int32) (59 : Int32) x7 (0 : Int32) x7) [])) _
          refine XS.aload X145.here hx rfl (hb hby at_144) rfl rfl ?_
          show Steps p.tables e below (T145.setTop (mkF m 146 (LS_IIIRRIIIIIu p0 p1 p2 b1 w_CronField_MINUTE (0 : Int32) (59 : Int32) x7 (0 : Int32) x7) [(.ref w_CronField_MINUTE)])) _
          refine XS.iload X145.here hx rfl (hb hby at_146) rfl ?_
          exact k
        obtain ⟨cq146, kq146, q146a, q146b, q146c⟩ := isOf hZ e145 E_CronField_MINUTE_v133
        obtain ⟨_, _, ⟨T146, L146, k146, n146⟩, -, X146, ⟨Lc146, hQ146, l146, y146, z146⟩, st146⟩ := X145.virtualBack hx (y := (⟨"com/example/murray_hill/murrayhill/cron/CronField", "canonical", "(I)I"⟩ : MethodName)) (z := (⟨"com/example/murray_hill/murrayhill/cron/CronField", "canonical", "(I)I"⟩ : MethodName)) hown (mvT hZ (hw _ (List.mem_of_getElem? (i := 31) rfl))) (mvT hZ (hw _ (List.mem_of_getElem? (i := 32) rfl))) (notFace_of_selects (args := #[]) (mvT hZ (hw _ (List.mem_of_getElem? (i := 34) rfl)))) (mvT hZ (hw _ (List.mem_of_getElem? (i := 34) rfl))) (mvT hZ (hw _ (List.mem_of_getElem? (i := 33) rfl))) (by decide) (backOf (W := 0) (rm3 l Z a0 hw [] w_CronField_MINUTE x7 w_CronField_DAY_OF_WEEK h55 n0 Z0_v127 S_CronField_DAY_OF_WEEK_v144) hZ (hw _ (List.mem_of_getElem? (i := 35) rfl)) (hw _ (List.mem_of_getElem? (i := 3) rfl)) (by decide) (by decide)) q146a q146c (g := (mkF m 148 (LS_IIIRRIIIIIu p0 p1 p2 b1 w_CronField_MINUTE (0 : Int32) (59 : Int32) x7 (0 : Int32) x7) [(.int x7), (.ref w_CronField_MINUTE)])) rfl (by rw [hml]; rfl) (Steps.refl _) (argsL := [(.int x7)]) (rest := []) (lenOf pd__I_I rfl) rfl (by show 2 * 0 + _ ≤ _; exact Nat.le_of_eq rfl) (hb hby at_148) (fun _ _ => ⟨rfl, e145, (by decide : 1 + 0 ≤ _), (by decide : 6 + 0 ≤ _)⟩)
        dsimp only [Pt.U, Pt.locs, Pt.cells, Pt.slots] at X146 l146 y146 z146 st146 hQ146
        subst l146 y146 z146
        obtain ⟨rfl, N146q, e146⟩ := hQ146
        have N146 := Fr.app N141 N146q
        refine own_go (B := T146.setTop (mkF m 151 (LS_IIIRRIIIIIu p0 p1 p2 b1 w_CronField_MINUTE (0 : Int32) (59 : Int32) x7 (0 : Int32) x7) [(.int (if w_CronField_MINUTE = w_CronField_DAY_OF_WEEK then (if x7 = (7 : Int32) then (0 : Int32) else x7) else x7))])) (fun t k => st146.trans k) ?_
        rw [show (if w_CronField_MINUTE = w_CronField_DAY_OF_WEEK then (if x7 = (7 : Int32) then (0 : Int32) else x7) else x7) = x7 from if_neg (Fld.ne F_CronField_MINUTE_ordinal F_CronField_DAY_OF_WEEK_ordinal (by decide))]
        refine own_go (B := T146.setTop (mkF m 164 (LS_IIIRRIIIIII p0 p1 p2 b1 w_CronField_MINUTE (0 : Int32) (59 : Int32) x7 (0 : Int32) x7 x7) [(.int x7), (.ref w_CronField_MINUTE)])) (fun t k => ?_) ?_
        · show Steps p.tables e below (T146.setTop (mkF m 151 (LS_IIIRRIIIIIu p0 p1 p2 b1 w_CronField_MINUTE (0 : Int32) (59 : Int32) x7 (0 : Int32) x7) [(.int x7)])) _
          refine XS.istore X146.here hx rfl (hb hby at_151) rfl (l' := (LS_IIIRRIIIIII p0 p1 p2 b1 w_CronField_MINUTE (0 : Int32) (59 : Int32) x7 (0 : Int32) x7 x7)) rfl ?_
          show Steps p.tables e below (T146.setTop (mkF m 153 (LS_IIIRRIIIIII p0 p1 p2 b1 w_CronField_MINUTE (0 : Int32) (59 : Int32) x7 (0 : Int32) x7 x7) [])) _
          refine XS.iload X146.here hx rfl (hb hby at_153) rfl ?_
          show Steps p.tables e below (T146.setTop (mkF m 155 (LS_IIIRRIIIIII p0 p1 p2 b1 w_CronField_MINUTE (0 : Int32) (59 : Int32) x7 (0 : Int32) x7 x7) [(.int x7)])) _
          refine XS.iload X146.here hx rfl (hb hby at_155) rfl ?_
          show Steps p.tables e below (T146.setTop (mkF m 157 (LS_IIIRRIIIIII p0 p1 p2 b1 w_CronField_MINUTE (0 : Int32) (59 : Int32) x7 (0 : Int32) x7 x7) [(.int x7), (.int x7)])) _
          refine XS.icmpNo X146.here hx rfl (hb hby at_157) rfl (teq (rfl : x7 = x7)).2 ?_
          show Steps p.tables e below (T146.setTop (mkF m 160 (LS_IIIRRIIIIII p0 p1 p2 b1 w_CronField_MINUTE (0 : Int32) (59 : Int32) x7 (0 : Int32) x7 x7) [])) _
          refine XS.aload X146.here hx rfl (hb hby at_160) rfl rfl ?_
          show Steps p.tables e below (T146.setTop (mkF m 162 (LS_IIIRRIIIIII p0 p1 p2 b1 w_CronField_MINUTE (0 : Int32) (59 : Int32) x7 (0 : Int32) x7 x7) [(.ref w_CronField_MINUTE)])) _
          refine XS.iload X146.here hx rfl (hb hby at_162) rfl ?_
          exact k
        obtain ⟨cq147, kq147, q147a, q147b, q147c⟩ := isOf hZ e146 E_CronField_MINUTE_v133
        obtain ⟨_, _, ⟨T147, L147, k147, n147⟩, -, X147, ⟨Lc147, hQ147, l147, y147, z147⟩, st147⟩ := X146.virtualBack hx (y := (⟨"com/example/murray_hill/murrayhill/cron/CronField", "canonical", "(I)I"⟩ : MethodName)) (z := (⟨"com/example/murray_hill/murrayhill/cron/CronField", "canonical", "(I)I"⟩ : MethodName)) hown (mvT hZ (hw _ (List.mem_of_getElem? (i := 31) rfl))) (mvT hZ (hw _ (List.mem_of_getElem? (i := 32) rfl))) (notFace_of_selects (args := #[]) (mvT hZ (hw _ (List.mem_of_getElem? (i := 34) rfl)))) (mvT hZ (hw _ (List.mem_of_getElem? (i := 34) rfl))) (mvT hZ (hw _ (List.mem_of_getElem? (i := 33) rfl))) (by decide) (backOf (W := 0) (rm3 l Z a0 hw [] w_CronField_MINUTE x7 w_CronField_DAY_OF_WEEK h55 n0 Z0_v127 S_CronField_DAY_OF_WEEK_v144) hZ (hw _ (List.mem_of_getElem? (i := 35) rfl)) (hw _ (List.mem_of_getElem? (i := 3) rfl)) (by decide) (by decide)) q147a q147c (g := (mkF m 164 (LS_IIIRRIIIIII p0 p1 p2 b1 w_CronField_MINUTE (0 : Int32) (59 : Int32) x7 (0 : Int32) x7 x7) [(.int x7), (.ref w_CronField_MINUTE)])) rfl (by rw [hml]; rfl) (Steps.refl _) (argsL := [(.int x7)]) (rest := []) (lenOf pd__I_I rfl) rfl (by show 2 * 0 + _ ≤ _; exact Nat.le_of_eq rfl) (hb hby at_164) (fun _ _ => ⟨rfl, e146, (by decide : 1 + 0 ≤ _), (by decide : 6 + 0 ≤ _)⟩)
        dsimp only [Pt.U, Pt.locs, Pt.cells, Pt.slots] at X147 l147 y147 z147 st147 hQ147
        subst l147 y147 z147
        obtain ⟨rfl, N147q, e147⟩ := hQ147
        have N147 := Fr.app N146 N147q
        refine own_go (B := T147.setTop (mkF m 167 (LS_IIIRRIIIIII p0 p1 p2 b1 w_CronField_MINUTE (0 : Int32) (59 : Int32) x7 (0 : Int32) x7 x7) [(.int (if w_CronField_MINUTE = w_CronField_DAY_OF_WEEK then (if x7 = (7 : Int32) then (0 : Int32) else x7) else x7))])) (fun t k => st147.trans k) ?_
        rw [show (if w_CronField_MINUTE = w_CronField_DAY_OF_WEEK then (if x7 = (7 : Int32) then (0 : Int32) else x7) else x7) = x7 from if_neg (Fld.ne F_CronField_MINUTE_ordinal F_CronField_DAY_OF_WEEK_ordinal (by decide))]
        refine own_go (B := T147.setTop (mkF m 177 (LS_IIIRRIIIIII p0 p1 p2 b1 w_CronField_MINUTE (0 : Int32) (59 : Int32) x7 (0 : Int32) x7 x7) [(.int (1 : Int32))])) (fun t k => ?_) ?_
        · show Steps p.tables e below (T147.setTop (mkF m 167 (LS_IIIRRIIIIII p0 p1 p2 b1 w_CronField_MINUTE (0 : Int32) (59 : Int32) x7 (0 : Int32) x7 x7) [(.int x7)])) _
          refine XS.iload X147.here hx rfl (hb hby at_167) rfl ?_
          show Steps p.tables e below (T147.setTop (mkF m 169 (LS_IIIRRIIIIII p0 p1 p2 b1 w_CronField_MINUTE (0 : Int32) (59 : Int32) x7 (0 : Int32) x7 x7) [(.int x7), (.int x7)])) _
          refine XS.icmpNo X147.here hx rfl (hb hby at_169) rfl (teq (rfl : x7 = x7)).2 ?_
          show Steps p.tables e below (T147.setTop (mkF m 172 (LS_IIIRRIIIIII p0 p1 p2 b1 w_CronField_MINUTE (0 : Int32) (59 : Int32) x7 (0 : Int32) x7 x7) [])) _
          refine XS.iconst X147.here hx rfl (hb hby at_172) ?_
          show Steps p.tables e below (T147.setTop (mkF m 173 (LS_IIIRRIIIIII p0 p1 p2 b1 w_CronField_MINUTE (0 : Int32) (59 : Int32) x7 (0 : Int32) x7 x7) [(.int (1 : Int32))])) _
          refine XS.goto X147.here hx rfl (pc0 := 173) (pc' := 177) rfl (hb hby at_173) (by decide) (by decide) ?_
          exact k
        obtain ⟨fs, hr, hrun, hended, hW, hsame⟩ := X147.leave (v := some (.int (1 : Int32))) (fun h => by rw [Bd.returns] at h; cases h)
        refine ⟨_, _, ?_, hrun, hended, _, _, rfl, ?_, ⟨_, rfl⟩, hW, hsame.mono (by decide) (by decide)⟩
        · show Steps p.tables e below (T147.setTop (mkF m 177 (LS_IIIRRIIIIII p0 p1 p2 b1 w_CronField_MINUTE (0 : Int32) (59 : Int32) x7 (0 : Int32) x7 x7) [(.int (1 : Int32))])) _
          exact retN X147 hx (t := .boolean) Bd.returns (by simp) (hb hby at_177) hr
        · show Q0 Z p0 p1 p2 w_CronField_SECOND w_CronField_MINUTE w_CronField_HOUR w_CronField_DAY_OF_MONTH w_CronField_MONTH w_CronField_DAY_OF_WEEK h0 n0 _ T147.heap _
          rw [e147]
          exact ⟨rfl, N147⟩
      · refine own_go (B := T142.setTop (mkF m 107 (LS_IIIRRIIIuuu p0 p1 p2 b1 w_CronField_MINUTE (0 : Int32) (59 : Int32) x7) [(.int (59 : Int32)), (.int x7)])) (fun t k => ?_) ?_
        · show Steps p.tables e below (T142.setTop (mkF m 100 (LS_IIIRRIIIuuu p0 p1 p2 b1 w_CronField_MINUTE (0 : Int32) (59 : Int32) x7) [(.int x7), (.int (0 : Int32))])) _
          refine XS.icmpNo X142.here hx rfl (hb hby at_100) rfl (flt hc100_143).2.2.1 ?_
          show Steps p.tables e below (T142.setTop (mkF m 103 (LS_IIIRRIIIuuu p0 p1 p2 b1 w_CronField_MINUTE (0 : Int32) (59 : Int32) x7) [])) _
          refine XS.iload X142.here hx rfl (hb hby at_103) rfl ?_
          show Steps p.tables e below (T142.setTop (mkF m 105 (LS_IIIRRIIIuuu p0 p1 p2 b1 w_CronField_MINUTE (0 : Int32) (59 : Int32) x7) [(.int x7)])) _
          refine XS.iload X142.here hx rfl (hb hby at_105) rfl ?_
          exact k
        by_cases hc107_148 : (59 : Int32) < x7
        · have S_CronField_DAY_OF_WEEK_v149 := S_CronField_DAY_OF_WEEK_v52.wr W55
          refine own_go (B := T142.setTop (mkF m 119 (LS_IIIRRIIIIuu p0 p1 p2 b1 w_CronField_MINUTE (0 : Int32) (59 : Int32) x7 (0 : Int32)) [(.ref w_CronField_MINUTE)])) (fun t k => ?_) ?_
          · show Steps p.tables e below (T142.setTop (mkF m 107 (LS_IIIRRIIIuuu p0 p1 p2 b1 w_CronField_MINUTE (0 : Int32) (59 : Int32) x7) [(.int (59 : Int32)), (.int x7)])) _
            refine XS.icmpYes X142.here hx rfl (pc0 := 107) (pc' := 114) rfl (hb hby at_107) rfl (tlt hc107_148).2.2.1 (by decide) (by decide) ?_
            show Steps p.tables e below (T142.setTop (mkF m 114 (LS_IIIRRIIIuuu p0 p1 p2 b1 w_CronField_MINUTE (0 : Int32) (59 : Int32) x7) [])) _
            refine XS.iconst X142.here hx rfl (hb hby at_114) ?_
            show Steps p.tables e below (T142.setTop (mkF m 115 (LS_IIIRRIIIuuu p0 p1 p2 b1 w_CronField_MINUTE (0 : Int32) (59 : Int32) x7) [(.int (0 : Int32))])) _
            refine XS.istore X142.here hx rfl (hb hby at_115) rfl (l' := (LS_IIIRRIIIIuu p0 p1 p2 b1 w_CronField_MINUTE (0 : Int32) (59 : Int32) x7 (0 : Int32))) rfl ?_
            show Steps p.tables e below (T142.setTop (mkF m 117 (LS_IIIRRIIIIuu p0 p1 p2 b1 w_CronField_MINUTE (0 : Int32) (59 : Int32) x7 (0 : Int32)) [])) _
            refine XS.aload X142.here hx rfl (hb hby at_117) rfl rfl ?_
            exact k
          obtain ⟨T150, X150, e150, st150⟩ := getS2 X142 hx hZ hown (host := "") (Or.inl (hw _ (List.mem_of_getElem? (i := 14) rfl))) Via.refl e142 S_CronField_DAY_OF_WEEK_v149 (g := (mkF m 119 (LS_IIIRRIIIIuu p0 p1 p2 b1 w_CronField_MINUTE (0 : Int32) (59 : Int32) x7 (0 : Int32)) [(.ref w_CronField_MINUTE)])) rfl (hb hby at_119)
          refine own_go (B := T150.setTop (mkF m 122 (LS_IIIRRIIIIuu p0 p1 p2 b1 w_CronField_MINUTE (0 : Int32) (59 : Int32) x7 (0 : Int32)) [(.ref w_CronField_DAY_OF_WEEK), (.ref w_CronField_MINUTE)])) (fun t k => st150 _ k) ?_
          refine own_go (B := T150.setTop (mkF m 148 (LS_IIIRRIIIIIu p0 p1 p2 b1 w_CronField_MINUTE (0 : Int32) (59 : Int32) x7 (0 : Int32) x7) [(.int x7), (.ref w_CronField_MINUTE)])) (fun t k => ?_) ?_
          · show Steps p.tables e below (T150.setTop (mkF m 122 (LS_IIIRRIIIIuu p0 p1 p2 b1 w_CronField_MINUTE (0 : Int32) (59 : Int32) x7 (0 : Int32)) [(.ref w_CronField_DAY_OF_WEEK), (.ref w_CronField_MINUTE)])) _
            refine Jvm.RoadKit.acmp (g := (mkF m 122 (LS_IIIRRIIIIuu p0 p1 p2 b1 w_CronField_MINUTE (0 : Int32) (59 : Int32) x7 (0 : Int32)) [(.ref w_CronField_DAY_OF_WEEK), (.ref w_CronField_MINUTE)])) X150 hx rfl rfl rfl (pc0 := 122) (pc' := 140) (same := false) rfl (hb hby at_122) rfl (decide_eq_false fun q => (Fld.ne F_CronField_MINUTE_ordinal F_CronField_DAY_OF_WEEK_ordinal (by decide)) (Value.ref.inj q)) (by decide) (by decide) ?_
            show Steps p.tables e below (T150.setTop (mkF m 140 (LS_IIIRRIIIIuu p0 p1 p2 b1 w_CronField_MINUTE (0 : Int32) (59 : Int32) x7 (0 : Int32)) [])) _
            refine XS.iload X150.here hx rfl (hb hby at_140) rfl ?_
            show Steps p.tables e below (T150.setTop (mkF m 142 (LS_IIIRRIIIIuu p0 p1 p2 b1 w_CronField_MINUTE (0 : Int32) (59 : Int32) x7 (0 : Int32)) [(.int x7)])) _
            refine XS.istore X150.here hx rfl (hb hby at_142) rfl (l' := (LS_IIIRRIIIIIu p0 p1 p2 b1 w_CronField_MINUTE (0 : Int32) (59 : Int32) x7 (0 : Int32) x7)) rfl ?_
            show Steps p.tables e below (T150.setTop (mkF m 144 (LS_IIIRRIIIIIu p0 p1 p2 b1 w_CronField_MINUTE (0 : Int32) (59 : Int32) x7 (0 : Int32) x7) [])) _
            refine XS.aload X150.here hx rfl (hb hby at_144) rfl rfl ?_
            show Steps p.tables e below (T150.setTop (mkF m 146 (LS_IIIRRIIIIIu p0 p1 p2 b1 w_CronField_MINUTE (0 : Int32) (59 : Int32) x7 (0 : Int32) x7) [(.ref w_CronField_MINUTE)])) _
            refine XS.iload X150.here hx rfl (hb hby at_146) rfl ?_
            exact k
          obtain ⟨cq151, kq151, q151a, q151b, q151c⟩ := isOf hZ e150 E_CronField_MINUTE_v133
          obtain ⟨_, _, ⟨T151, L151, k151, n151⟩, -, X151, ⟨Lc151, hQ151, l151, y151, z151⟩, st151⟩ := X150.virtualBack hx (y := (⟨"com/example/murray_hill/murrayhill/cron/CronField", "canonical", "(I)I"⟩ : MethodName)) (z := (⟨"com/example/murray_hill/murrayhill/cron/CronField", "canonical", "(I)I"⟩ : MethodName)) hown (mvT hZ (hw _ (List.mem_of_getElem? (i := 31) rfl))) (mvT hZ (hw _ (List.mem_of_getElem? (i := 32) rfl))) (notFace_of_selects (args := #[]) (mvT hZ (hw _ (List.mem_of_getElem? (i := 34) rfl)))) (mvT hZ (hw _ (List.mem_of_getElem? (i := 34) rfl))) (mvT hZ (hw _ (List.mem_of_getElem? (i := 33) rfl))) (by decide) (backOf (W := 0) (rm3 l Z a0 hw [] w_CronField_MINUTE x7 w_CronField_DAY_OF_WEEK h55 n0 Z0_v127 S_CronField_DAY_OF_WEEK_v149) hZ (hw _ (List.mem_of_getElem? (i := 35) rfl)) (hw _ (List.mem_of_getElem? (i := 3) rfl)) (by decide) (by decide)) q151a q151c (g := (mkF m 148 (LS_IIIRRIIIIIu p0 p1 p2 b1 w_CronField_MINUTE (0 : Int32) (59 : Int32) x7 (0 : Int32) x7) [(.int x7), (.ref w_CronField_MINUTE)])) rfl (by rw [hml]; rfl) (Steps.refl _) (argsL := [(.int x7)]) (rest := []) (lenOf pd__I_I rfl) rfl (by show 2 * 0 + _ ≤ _; exact Nat.le_of_eq rfl) (hb hby at_148) (fun _ _ => ⟨rfl, e150, (by decide : 1 + 0 ≤ _), (by decide : 6 + 0 ≤ _)⟩)
          dsimp only [Pt.U, Pt.locs, Pt.cells, Pt.slots] at X151 l151 y151 z151 st151 hQ151
          subst l151 y151 z151
          obtain ⟨rfl, N151q, e151⟩ := hQ151
          have N151 := Fr.app N141 N151q
          refine own_go (B := T151.setTop (mkF m 151 (LS_IIIRRIIIIIu p0 p1 p2 b1 w_CronField_MINUTE (0 : Int32) (59 : Int32) x7 (0 : Int32) x7) [(.int (if w_CronField_MINUTE = w_CronField_DAY_OF_WEEK then (if x7 = (7 : Int32) then (0 : Int32) else x7) else x7))])) (fun t k => st151.trans k) ?_
          rw [show (if w_CronField_MINUTE = w_CronField_DAY_OF_WEEK then (if x7 = (7 : Int32) then (0 : Int32) else x7) else x7) = x7 from if_neg (Fld.ne F_CronField_MINUTE_ordinal F_CronField_DAY_OF_WEEK_ordinal (by decide))]
          refine own_go (B := T151.setTop (mkF m 164 (LS_IIIRRIIIIII p0 p1 p2 b1 w_CronField_MINUTE (0 : Int32) (59 : Int32) x7 (0 : Int32) x7 x7) [(.int x7), (.ref w_CronField_MINUTE)])) (fun t k => ?_) ?_
          · show Steps p.tables e below (T151.setTop (mkF m 151 (LS_IIIRRIIIIIu p0 p1 p2 b1 w_CronField_MINUTE (0 : Int32) (59 : Int32) x7 (0 : Int32) x7) [(.int x7)])) _
            refine XS.istore X151.here hx rfl (hb hby at_151) rfl (l' := (LS_IIIRRIIIIII p0 p1 p2 b1 w_CronField_MINUTE (0 : Int32) (59 : Int32) x7 (0 : Int32) x7 x7)) rfl ?_
            show Steps p.tables e below (T151.setTop (mkF m 153 (LS_IIIRRIIIIII p0 p1 p2 b1 w_CronField_MINUTE (0 : Int32) (59 : Int32) x7 (0 : Int32) x7 x7) [])) _
            refine XS.iload X151.here hx rfl (hb hby at_153) rfl ?_
            show Steps p.tables e below (T151.setTop (mkF m 155 (LS_IIIRRIIIIII p0 p1 p2 b1 w_CronField_MINUTE (0 : Int32) (59 : Int32) x7 (0 : Int32) x7 x7) [(.int x7)])) _
            refine XS.iload X151.here hx rfl (hb hby at_155) rfl ?_
            show Steps p.tables e below (T151.setTop (mkF m 157 (LS_IIIRRIIIIII p0 p1 p2 b1 w_CronField_MINUTE (0 : Int32) (59 : Int32) x7 (0 : Int32) x7 x7) [(.int x7), (.int x7)])) _
            refine XS.icmpNo X151.here hx rfl (hb hby at_157) rfl (teq (rfl : x7 = x7)).2 ?_
            show Steps p.tables e below (T151.setTop (mkF m 160 (LS_IIIRRIIIIII p0 p1 p2 b1 w_CronField_MINUTE (0 : Int32) (59 : Int32) x7 (0 : Int32) x7 x7) [])) _
            refine XS.aload X151.here hx rfl (hb hby at_160) rfl rfl ?_
            show Steps p.tables e below (T151.setTop (mkF m 162 (LS_IIIRRIIIIII p0 p1 p2 b1 w_CronField_MINUTE (0 : Int32) (59 : Int32) x7 (0 : Int32) x7 x7) [(.ref w_CronField_MINUTE)])) _
            refine XS.iload X151.here hx rfl (hb hby at_162) rfl ?_
            exact k
          obtain ⟨cq152, kq152, q152a, q152b, q152c⟩ := isOf hZ e151 E_CronField_MINUTE_v133
          obtain ⟨_, _, ⟨T152, L152, k152, n152⟩, -, X152, ⟨Lc152, hQ152, l152, y152, z152⟩, st152⟩ := X151.virtualBack hx (y := (⟨"com/example/murray_hill/murrayhill/cron/CronField", "canonical", "(I)I"⟩ : MethodName)) (z := (⟨"com/example/murray_hill/murrayhill/cron/CronField", "canonical", "(I)I"⟩ : MethodName)) hown (mvT hZ (hw _ (List.mem_of_getElem? (i := 31) rfl))) (mvT hZ (hw _ (List.mem_of_getElem? (i := 32) rfl))) (notFace_of_selects (args := #[]) (mvT hZ (hw _ (List.mem_of_getElem? (i := 34) rfl)))) (mvT hZ (hw _ (List.mem_of_getElem? (i := 34) rfl))) (mvT hZ (hw _ (List.mem_of_getElem? (i := 33) rfl))) (by decide) (backOf (W := 0) (rm3 l Z a0 hw [] w_CronField_MINUTE x7 w_CronField_DAY_OF_WEEK h55 n0 Z0_v127 S_CronField_DAY_OF_WEEK_v149) hZ (hw _ (List.mem_of_getElem? (i := 35) rfl)) (hw _ (List.mem_of_getElem? (i := 3) rfl)) (by decide) (by decide)) q152a q152c (g := (mkF m 164 (LS_IIIRRIIIIII p0 p1 p2 b1 w_CronField_MINUTE (0 : Int32) (59 : Int32) x7 (0 : Int32) x7 x7) [(.int x7), (.ref w_CronField_MINUTE)])) rfl (by rw [hml]; rfl) (Steps.refl _) (argsL := [(.int x7)]) (rest := []) (lenOf pd__I_I rfl) rfl (by show 2 * 0 + _ ≤ _; exact Nat.le_of_eq rfl) (hb hby at_164) (fun _ _ => ⟨rfl, e151, (by decide : 1 + 0 ≤ _), (by decide : 6 + 0 ≤ _)⟩)
          dsimp only [Pt.U, Pt.locs, Pt.cells, Pt.slots] at X152 l152 y152 z152 st152 hQ152
          subst l152 y152 z152
          obtain ⟨rfl, N152q, e152⟩ := hQ152
          have N152 := Fr.app N151 N152q
          refine own_go (B := T152.setTop (mkF m 167 (LS_IIIRRIIIIII p0 p1 p2 b1 w_CronField_MINUTE (0 : Int32) (59 : Int32) x7 (0 : Int32) x7 x7) [(.int (if w_CronField_MINUTE = w_CronField_DAY_OF_WEEK then (if x7 = (7 : Int32) then (0 : Int32) else x7) else x7))])) (fun t k => st152.trans k) ?_
          rw [show (if w_CronField_MINUTE = w_CronField_DAY_OF_WEEK then (if x7 = (7 : Int32) then (0 : Int32) else x7) else x7) = x7 from if_neg (Fld.ne F_CronField_MINUTE_ordinal F_CronField_DAY_OF_WEEK_ordinal (by decide))]
          refine own_go (B := T152.setTop (mkF m 177 (LS_IIIRRIIIIII p0 p1 p2 b1 w_CronField_MINUTE (0 : Int32) (59 : Int32) x7 (0 : Int32) x7 x7) [(.int (1 : Int32))])) (fun t k => ?_) ?_
          · show Steps p.tables e below (T152.setTop (mkF m 167 (LS_IIIRRIIIIII p0 p1 p2 b1 w_CronField_MINUTE (0 : Int32) (59 : Int32) x7 (0 : Int32) x7 x7) [(.int x7)])) _
            refine XS.iload X152.here hx rfl (hb hby at_167) rfl ?_
            show Steps p.tables e below (T152.setTop (mkF m 169 (LS_IIIRRIIIIII p0 p1 p2 b1 w_CronField_MINUTE (0 : Int32) (59 : Int32) x7 (0 : Int32) x7 x7) [(.int x7), (.int x7)])) _
            refine XS.icmpNo X152.here hx rfl (hb hby at_169) rfl (teq (rfl : x7 = x7)).2 ?_
            show Steps p.tables e below (T152.setTop (mkF m 172 (LS_IIIRRIIIIII p0 p1 p2 b1 w_CronField_MINUTE (0 : Int32) (59 : Int32) x7 (0 : Int32) x7 x7) [])) _
            refine XS.iconst X152.here hx rfl (hb hby at_172) ?_
            show Steps p.tables e below (T152.setTop (mkF m 173 (LS_IIIRRIIIIII p0 p1 p2 b1 w_CronField_MINUTE (0 : Int32) (59 : Int32) x7 (0 : Int32) x7 x7) [(.int (1 : Int32))])) _
            refine XS.goto X152.here hx rfl (pc0 := 173) (pc' := 177) rfl (hb hby at_173) (by decide) (by decide) ?_
            exact k
          obtain ⟨fs, hr, hrun, hended, hW, hsame⟩ := X152.leave (v := some (.int (1 : Int32))) (fun h => by rw [Bd.returns] at h; cases h)
          refine ⟨_, _, ?_, hrun, hended, _, _, rfl, ?_, ⟨_, rfl⟩, hW, hsame.mono (by decide) (by decide)⟩
          · show Steps p.tables e below (T152.setTop (mkF m 177 (LS_IIIRRIIIIII p0 p1 p2 b1 w_CronField_MINUTE (0 : Int32) (59 : Int32) x7 (0 : Int32) x7 x7) [(.int (1 : Int32))])) _
            exact retN X152 hx (t := .boolean) Bd.returns (by simp) (hb hby at_177) hr
          · show Q0 Z p0 p1 p2 w_CronField_SECOND w_CronField_MINUTE w_CronField_HOUR w_CronField_DAY_OF_MONTH w_CronField_MONTH w_CronField_DAY_OF_WEEK h0 n0 _ T152.heap _
            rw [e152]
            exact ⟨rfl, N152⟩
        · have S_CronField_DAY_OF_WEEK_v153 := S_CronField_DAY_OF_WEEK_v52.wr W55
          refine own_go (B := T142.setTop (mkF m 119 (LS_IIIRRIIIIuu p0 p1 p2 b1 w_CronField_MINUTE (0 : Int32) (59 : Int32) x7 (1 : Int32)) [(.ref w_CronField_MINUTE)])) (fun t k => ?_) ?_
          · show Steps p.tables e below (T142.setTop (mkF m 107 (LS_IIIRRIIIuuu p0 p1 p2 b1 w_CronField_MINUTE (0 : Int32) (59 : Int32) x7) [(.int (59 : Int32)), (.int x7)])) _
            refine XS.icmpNo X142.here hx rfl (hb hby at_107) rfl (flt hc107_148).2.2.1 ?_
            show Steps p.tables e below (T142.setTop (mkF m 110 (LS_IIIRRIIIuuu p0 p1 p2 b1 w_CronField_MINUTE (0 : Int32) (59 : Int32) x7) [])) _
            refine XS.iconst X142.here hx rfl (hb hby at_110) ?_
            show Steps p.tables e below (T142.setTop (mkF m 111 (LS_IIIRRIIIuuu p0 p1 p2 b1 w_CronField_MINUTE (0 : Int32) (59 : Int32) x7) [(.int (1 : Int32))])) _
            refine XS.goto X142.here hx rfl (pc0 := 111) (pc' := 115) rfl (hb hby at_111) (by decide) (by decide) ?_
            show Steps p.tables e below (T142.setTop (mkF m 115 (LS_IIIRRIIIuuu p0 p1 p2 b1 w_CronField_MINUTE (0 : Int32) (59 : Int32) x7) [(.int (1 : Int32))])) _
            refine XS.istore X142.here hx rfl (hb hby at_115) rfl (l' := (LS_IIIRRIIIIuu p0 p1 p2 b1 w_CronField_MINUTE (0 : Int32) (59 : Int32) x7 (1 : Int32))) rfl ?_
            show Steps p.tables e below (T142.setTop (mkF m 117 (LS_IIIRRIIIIuu p0 p1 p2 b1 w_CronField_MINUTE (0 : Int32) (59 : Int32) x7 (1 : Int32)) [])) _
            refine XS.aload X142.here hx rfl (hb hby at_117) rfl rfl ?_
            exact k
          obtain ⟨T154, X154, e154, st154⟩ := getS2 X142 hx hZ hown (host := "") (Or.inl (hw _ (List.mem_of_getElem? (i := 14) rfl))) Via.refl e142 S_CronField_DAY_OF_WEEK_v153 (g := (mkF m 119 (LS_IIIRRIIIIuu p0 p1 p2 b1 w_CronField_MINUTE (0 : Int32) (59 : Int32) x7 (1 : Int32)) [(.ref w_CronField_MINUTE)])) rfl (hb hby at_119)
          refine own_go (B := T154.setTop (mkF m 122 (LS_IIIRRIIIIuu p0 p1 p2 b1 w_CronField_MINUTE (0 : Int32) (59 : Int32) x7 (1 : Int32)) [(.ref w_CronField_DAY_OF_WEEK), (.ref w_CronField_MINUTE)])) (fun t k => st154 _ k) ?_
          refine own_go (B := T154.setTop (mkF m 148 (LS_IIIRRIIIIIu p0 p1 p2 b1 w_CronField_MINUTE (0 : Int32) (59 : Int32) x7 (1 : Int32) x7) [(.int x7), (.ref w_CronField_MINUTE)])) (fun t k => ?_) ?_
          · show Steps p.tables e below (T154.setTop (mkF m 122 (LS_IIIRRIIIIuu p0 p1 p2 b1 w_CronField_MINUTE (0 : Int32) (59 : Int32) x7 (1 : Int32)) [(.ref w_CronField_DAY_OF_WEEK), (.ref w_CronField_MINUTE)])) _
            refine Jvm.RoadKit.acmp (g := (mkF m 122 (LS_IIIRRIIIIuu p0 p1 p2 b1 w_CronField_MINUTE (0 : Int32) (59 : Int32) x7 (1 : Int32)) [(.ref w_CronField_DAY_OF_WEEK), (.ref w_CronField_MINUTE)])) X154 hx rfl rfl rfl (pc0 := 122) (pc' := 140) (same := false) rfl (hb hby at_122) rfl (decide_eq_false fun q => (Fld.ne F_CronField_MINUTE_ordinal F_CronField_DAY_OF_WEEK_ordinal (by decide)) (Value.ref.inj q)) (by decide) (by decide) ?_
            show Steps p.tables e below (T154.setTop (mkF m 140 (LS_IIIRRIIIIuu p0 p1 p2 b1 w_CronField_MINUTE (0 : Int32) (59 : Int32) x7 (1 : Int32)) [])) _
            refine XS.iload X154.here hx rfl (hb hby at_140) rfl ?_
            show Steps p.tables e below (T154.setTop (mkF m 142 (LS_IIIRRIIIIuu p0 p1 p2 b1 w_CronField_MINUTE (0 : Int32) (59 : Int32) x7 (1 : Int32)) [(.int x7)])) _
            refine XS.istore X154.here hx rfl (hb hby at_142) rfl (l' := (LS_IIIRRIIIIIu p0 p1 p2 b1 w_CronField_MINUTE (0 : Int32) (59 : Int32) x7 (1 : Int32) x7)) rfl ?_
            show Steps p.tables e below (T154.setTop (mkF m 144 (LS_IIIRRIIIIIu p0 p1 p2 b1 w_CronField_MINUTE (0 : Int32) (59 : Int32) x7 (1 : Int32) x7) [])) _
            refine XS.aload X154.here hx rfl (hb hby at_144) rfl rfl ?_
            show Steps p.tables e below (T154.setTop (mkF m 146 (LS_IIIRRIIIIIu p0 p1 p2 b1 w_CronField_MINUTE (0 : Int32) (59 : Int32) x7 (1 : Int32) x7) [(.ref w_CronField_MINUTE)])) _
            refine XS.iload X154.here hx rfl (hb hby at_146) rfl ?_
            exact k
          obtain ⟨cq155, kq155, q155a, q155b, q155c⟩ := isOf hZ e154 E_CronField_MINUTE_v133
          obtain ⟨_, _, ⟨T155, L155, k155, n155⟩, -, X155, ⟨Lc155, hQ155, l155, y155, z155⟩, st155⟩ := X154.virtualBack hx (y := (⟨"com/example/murray_hill/murrayhill/cron/CronField", "canonical", "(I)I"⟩ : MethodName)) (z := (⟨"com/example/murray_hill/murrayhill/cron/CronField", "canonical", "(I)I"⟩ : MethodName)) hown (mvT hZ (hw _ (List.mem_of_getElem? (i := 31) rfl))) (mvT hZ (hw _ (List.mem_of_getElem? (i := 32) rfl))) (notFace_of_selects (args := #[]) (mvT hZ (hw _ (List.mem_of_getElem? (i := 34) rfl)))) (mvT hZ (hw _ (List.mem_of_getElem? (i := 34) rfl))) (mvT hZ (hw _ (List.mem_of_getElem? (i := 33) rfl))) (by decide) (backOf (W := 0) (rm3 l Z a0 hw [] w_CronField_MINUTE x7 w_CronField_DAY_OF_WEEK h55 n0 Z0_v127 S_CronField_DAY_OF_WEEK_v153) hZ (hw _ (List.mem_of_getElem? (i := 35) rfl)) (hw _ (List.mem_of_getElem? (i := 3) rfl)) (by decide) (by decide)) q155a q155c (g := (mkF m 148 (LS_IIIRRIIIIIu p0 p1 p2 b1 w_CronField_MINUTE (0 : Int32) (59 : Int32) x7 (1 : Int32) x7) [(.int x7), (.ref w_CronField_MINUTE)])) rfl (by rw [hml]; rfl) (Steps.refl _) (argsL := [(.int x7)]) (rest := []) (lenOf pd__I_I rfl) rfl (by show 2 * 0 + _ ≤ _; exact Nat.le_of_eq rfl) (hb hby at_148) (fun _ _ => ⟨rfl, e154, (by decide : 1 + 0 ≤ _), (by decide : 6 + 0 ≤ _)⟩)
          dsimp only [Pt.U, Pt.locs, Pt.cells, Pt.slots] at X155 l155 y155 z155 st155 hQ155
          subst l155 y155 z155
          obtain ⟨rfl, N155q, e155⟩ := hQ155
          have N155 := Fr.app N141 N155q
          refine own_go (B := T155.setTop (mkF m 151 (LS_IIIRRIIIIIu p0 p1 p2 b1 w_CronField_MINUTE (0 : Int32) (59 : Int32) x7 (1 : Int32) x7) [(.int (if w_CronField_MINUTE = w_CronField_DAY_OF_WEEK then (if x7 = (7 : Int32) then (0 : Int32) else x7) else x7))])) (fun t k => st155.trans k) ?_
          rw [show (if w_CronField_MINUTE = w_CronField_DAY_OF_WEEK then (if x7 = (7 : Int32) then (0 : Int32) else x7) else x7) = x7 from if_neg (Fld.ne F_CronField_MINUTE_ordinal F_CronField_DAY_OF_WEEK_ordinal (by decide))]
          refine own_go (B := T155.setTop (mkF m 164 (LS_IIIRRIIIIII p0 p1 p2 b1 w_CronField_MINUTE (0 : Int32) (59 : Int32) x7 (1 : Int32) x7 x7) [(.int x7), (.ref w_CronField_MINUTE)])) (fun t k => ?_) ?_
          · show Steps p.tables e below (T155.setTop (mkF m 151 (LS_IIIRRIIIIIu p0 p1 p2 b1 w_CronField_MINUTE (0 : Int32) (59 : Int32) x7 (1 : Int32) x7) [(.int x7)])) _
            refine XS.istore X155.here hx rfl (hb hby at_151) rfl (l' := (LS_IIIRRIIIIII p0 p1 p2 b1 w_CronField_MINUTE (0 : Int32) (59 : Int32) x7 (1 : Int32) x7 x7)) rfl ?_
            show Steps p.tables e below (T155.setTop (mkF m 153 (LS_IIIRRIIIIII p0 p1 p2 b1 w_CronField_MINUTE (0 : Int32) (59 : Int32) x7 (1 : Int32) x7 x7) [])) _
            refine XS.iload X155.here hx rfl (hb hby at_153) rfl ?_
            show Steps p.tables e below (T155.setTop (mkF m 155 (LS_IIIRRIIIIII p0 p1 p2 b1 w_CronField_MINUTE (0 : Int32) (59 : Int32) x7 (1 : Int32) x7 x7) [(.int x7)])) _
            refine XS.iload X155.here hx rfl (hb hby at_155) rfl ?_
            show Steps p.tables e below (T155.setTop (mkF m 157 (LS_IIIRRIIIIII p0 p1 p2 b1 w_CronField_MINUTE (0 : Int32) (59 : Int32) x7 (1 : Int32) x7 x7) [(.int x7), (.int x7)])) _
            refine XS.icmpNo X155.here hx rfl (hb hby at_157) rfl (teq (rfl : x7 = x7)).2 ?_
            show Steps p.tables e below (T155.setTop (mkF m 160 (LS_IIIRRIIIIII p0 p1 p2 b1 w_CronField_MINUTE (0 : Int32) (59 : Int32) x7 (1 : Int32) x7 x7) [])) _
            refine XS.aload X155.here hx rfl (hb hby at_160) rfl rfl ?_
            show Steps p.tables e below (T155.setTop (mkF m 162 (LS_IIIRRIIIIII p0 p1 p2 b1 w_CronField_MINUTE (0 : Int32) (59 : Int32) x7 (1 : Int32) x7 x7) [(.ref w_CronField_MINUTE)])) _
            refine XS.iload X155.here hx rfl (hb hby at_162) rfl ?_
            exact k
          obtain ⟨cq156, kq156, q156a, q156b, q156c⟩ := isOf hZ e155 E_CronField_MINUTE_v133
          obtain ⟨_, _, ⟨T156, L156, k156, n156⟩, -, X156, ⟨Lc156, hQ156, l156, y156, z156⟩, st156⟩ := X155.virtualBack hx (y := (⟨"com/example/murray_hill/murrayhill/cron/CronField", "canonical", "(I)I"⟩ : MethodName)) (z := (⟨"com/example/murray_hill/murrayhill/cron/CronField", "canonical", "(I)I"⟩ : MethodName)) hown (mvT hZ (hw _ (List.mem_of_getElem? (i := 31) rfl))) (mvT hZ (hw _ (List.mem_of_getElem? (i := 32) rfl))) (notFace_of_selects (args := #[]) (mvT hZ (hw _ (List.mem_of_getElem? (i := 34) rfl)))) (mvT hZ (hw _ (List.mem_of_getElem? (i := 34) rfl))) (mvT hZ (hw _ (List.mem_of_getElem? (i := 33) rfl))) (by decide) (backOf (W := 0) (rm3 l Z a0 hw [] w_CronField_MINUTE x7 w_CronField_DAY_OF_WEEK h55 n0 Z0_v127 S_CronField_DAY_OF_WEEK_v153) hZ (hw _ (List.mem_of_getElem? (i := 35) rfl)) (hw _ (List.mem_of_getElem? (i := 3) rfl)) (by decide) (by decide)) q156a q156c (g := (mkF m 164 (LS_IIIRRIIIIII p0 p1 p2 b1 w_CronField_MINUTE (0 : Int32) (59 : Int32) x7 (1 : Int32) x7 x7) [(.int x7), (.ref w_CronField_MINUTE)])) rfl (by rw [hml]; rfl) (Steps.refl _) (argsL := [(.int x7)]) (rest := []) (lenOf pd__I_I rfl) rfl (by show 2 * 0 + _ ≤ _; exact Nat.le_of_eq rfl) (hb hby at_164) (fun _ _ => ⟨rfl, e155, (by decide : 1 + 0 ≤ _), (by decide : 6 + 0 ≤ _)⟩)
          dsimp only [Pt.U, Pt.locs, Pt.cells, Pt.slots] at X156 l156 y156 z156 st156 hQ156
          subst l156 y156 z156
          obtain ⟨rfl, N156q, e156⟩ := hQ156
          have N156 := Fr.app N155 N156q
          refine own_go (B := T156.setTop (mkF m 167 (LS_IIIRRIIIIII p0 p1 p2 b1 w_CronField_MINUTE (0 : Int32) (59 : Int32) x7 (1 : Int32) x7 x7) [(.int (if w_CronField_MINUTE = w_CronField_DAY_OF_WEEK then (if x7 = (7 : Int32) then (0 : Int32) else x7) else x7))])) (fun t k => st156.trans k) ?_
          rw [show (if w_CronField_MINUTE = w_CronField_DAY_OF_WEEK then (if x7 = (7 : Int32) then (0 : Int32) else x7) else x7) = x7 from if_neg (Fld.ne F_CronField_MINUTE_ordinal F_CronField_DAY_OF_WEEK_ordinal (by decide))]
          refine own_go (B := T156.setTop (mkF m 177 (LS_IIIRRIIIIII p0 p1 p2 b1 w_CronField_MINUTE (0 : Int32) (59 : Int32) x7 (1 : Int32) x7 x7) [(.int (1 : Int32))])) (fun t k => ?_) ?_
          · show Steps p.tables e below (T156.setTop (mkF m 167 (LS_IIIRRIIIIII p0 p1 p2 b1 w_CronField_MINUTE (0 : Int32) (59 : Int32) x7 (1 : Int32) x7 x7) [(.int x7)])) _
            refine XS.iload X156.here hx rfl (hb hby at_167) rfl ?_
            show Steps p.tables e below (T156.setTop (mkF m 169 (LS_IIIRRIIIIII p0 p1 p2 b1 w_CronField_MINUTE (0 : Int32) (59 : Int32) x7 (1 : Int32) x7 x7) [(.int x7), (.int x7)])) _
            refine XS.icmpNo X156.here hx rfl (hb hby at_169) rfl (teq (rfl : x7 = x7)).2 ?_
            show Steps p.tables e below (T156.setTop (mkF m 172 (LS_IIIRRIIIIII p0 p1 p2 b1 w_CronField_MINUTE (0 : Int32) (59 : Int32) x7 (1 : Int32) x7 x7) [])) _
            refine XS.iconst X156.here hx rfl (hb hby at_172) ?_
            show Steps p.tables e below (T156.setTop (mkF m 173 (LS_IIIRRIIIIII p0 p1 p2 b1 w_CronField_MINUTE (0 : Int32) (59 : Int32) x7 (1 : Int32) x7 x7) [(.int (1 : Int32))])) _
            refine XS.goto X156.here hx rfl (pc0 := 173) (pc' := 177) rfl (hb hby at_173) (by decide) (by decide) ?_
            exact k
          obtain ⟨fs, hr, hrun, hended, hW, hsame⟩ := X156.leave (v := some (.int (1 : Int32))) (fun h => by rw [Bd.returns] at h; cases h)
          refine ⟨_, _, ?_, hrun, hended, _, _, rfl, ?_, ⟨_, rfl⟩, hW, hsame.mono (by decide) (by decide)⟩
          · show Steps p.tables e below (T156.setTop (mkF m 177 (LS_IIIRRIIIIII p0 p1 p2 b1 w_CronField_MINUTE (0 : Int32) (59 : Int32) x7 (1 : Int32) x7 x7) [(.int (1 : Int32))])) _
            exact retN X156 hx (t := .boolean) Bd.returns (by simp) (hb hby at_177) hr
          · show Q0 Z p0 p1 p2 w_CronField_SECOND w_CronField_MINUTE w_CronField_HOUR w_CronField_DAY_OF_MONTH w_CronField_MONTH w_CronField_DAY_OF_WEEK h0 n0 _ T156.heap _
            rw [e156]
            exact ⟨rfl, N156⟩
    · intro rest142
      refine own_go (B := T141.setTop (mkF m 70 (LS_IIIRRIIuuuu p0 p1 p2 b1 w_CronField_MINUTE (0 : Int32) (59 : Int32)) [(.int (p2 &&& (1 : Int32)))])) (fun t k => ?_) ?_
      · show Steps p.tables e below (T141.setTop (mkF m 67 (LS_IIIRRIIuuuu p0 p1 p2 b1 w_CronField_MINUTE (0 : Int32) (59 : Int32)) [])) _
        refine XS.iloadN X141.here hx rfl (hb hby at_67) rfl ?_
        show Steps p.tables e below (T141.setTop (mkF m 68 (LS_IIIRRIIuuuu p0 p1 p2 b1 w_CronField_MINUTE (0 : Int32) (59 : Int32)) [(.int p2)])) _
        refine XS.iconst X141.here hx rfl (hb hby at_68) ?_
        show Steps p.tables e below (T141.setTop (mkF m 69 (LS_IIIRRIIuuuu p0 p1 p2 b1 w_CronField_MINUTE (0 : Int32) (59 : Int32)) [(.int (1 : Int32)), (.int p2)])) _
        refine XS.iand X141.here hx rfl (hb hby at_69) rfl ?_
        exact k
      by_cases hc70_157 : (p2 &&& (1 : Int32)) = (0 : Int32)
      · refine own_go (B := T141.setTop (mkF m 96 (LS_IIIRRIIIuuu p0 p1 p2 b1 w_CronField_MINUTE (0 : Int32) (59 : Int32) ((0 : Int32) + ((p1 &&& (2147483647 : Int32)) % (((59 : Int32) - (0 : Int32)) + (1 : Int32))))) [])) (fun t k => ?_) ?_
        · show Steps p.tables e below (T141.setTop (mkF m 70 (LS_IIIRRIIuuuu p0 p1 p2 b1 w_CronField_MINUTE (0 : Int32) (59 : Int32)) [(.int (p2 &&& (1 : Int32)))])) _
          refine XS.ifYes X141.here hx rfl (pc0 := 70) (pc' := 79) rfl (hb hby at_70) rfl ((if0 _ _).trans (teq hc70_157).1) (by decide) (by decide) ?_
          show Steps p.tables e below (T141.setTop (mkF m 79 (LS_IIIRRIIuuuu p0 p1 p2 b1 w_CronField_MINUTE (0 : Int32) (59 : Int32)) [])) _
          refine XS.iload X141.here hx rfl (hb hby at_79) rfl ?_
          show Steps p.tables e below (T141.setTop (mkF m 81 (LS_IIIRRIIuuuu p0 p1 p2 b1 w_CronField_MINUTE (0 : Int32) (59 : Int32)) [(.int (0 : Int32))])) _
          refine XS.iloadN X141.here hx rfl (hb hby at_81) rfl ?_
          show Steps p.tables e below (T141.setTop (mkF m 82 (LS_IIIRRIIuuuu p0 p1 p2 b1 w_CronField_MINUTE (0 : Int32) (59 : Int32)) [(.int p1), (.int (0 : Int32))])) _
          refine X141.ldcInt hx hown (mvT hZ (hw _ (List.mem_of_getElem? (i := 16) rfl))) (g := (mkF m 82 (LS_IIIRRIIuuuu p0 p1 p2 b1 w_CronField_MINUTE (0 : Int32) (59 : Int32)) [(.int p1), (.int (0 : Int32))])) rfl (hb hby at_82) _ ?_
          show Steps p.tables e below (T141.setTop (mkF m 84 (LS_IIIRRIIuuuu p0 p1 p2 b1 w_CronField_MINUTE (0 : Int32) (59 : Int32)) [(.int (2147483647 : Int32)), (.int p1), (.int (0 : Int32))])) _
          refine XS.iand X141.here hx rfl (hb hby at_84) rfl ?_
          show Steps p.tables e below (T141.setTop (mkF m 85 (LS_IIIRRIIuuuu p0 p1 p2 b1 w_CronField_MINUTE (0 : Int32) (59 : Int32)) [(.int (p1 &&& (2147483647 : Int32))), (.int (0 : Int32))])) _
          refine XS.iload X141.here hx rfl (hb hby at_85) rfl ?_
          show Steps p.tables e below (T141.setTop (mkF m 87 (LS_IIIRRIIuuuu p0 p1 p2 b1 w_CronField_MINUTE (0 : Int32) (59 : Int32)) [(.int (59 : Int32)), (.int (p1 &&& (2147483647 : Int32))), (.int (0 : Int32))])) _
          refine XS.iload X141.here hx rfl (hb hby at_87) rfl ?_
          show Steps p.tables e below (T141.setTop (mkF m 89 (LS_IIIRRIIuuuu p0 p1 p2 b1 w_CronField_MINUTE (0 : Int32) (59 : Int32)) [(.int (0 : Int32)), (.int (59 : Int32)), (.int (p1 &&& (2147483647 : Int32))), (.int (0 : Int32))])) _
          refine XS.isub X141.here hx rfl (hb hby at_89) rfl ?_
          show Steps p.tables e below (T141.setTop (mkF m 90 (LS_IIIRRIIuuuu p0 p1 p2 b1 w_CronField_MINUTE (0 : Int32) (59 : Int32)) [(.int ((59 : Int32) - (0 : Int32))), (.int (p1 &&& (2147483647 : Int32))), (.int (0 : Int32))])) _
          refine XS.iconst X141.here hx rfl (hb hby at_90) ?_
          show Steps p.tables e below (T141.setTop (mkF m 91 (LS_IIIRRIIuuuu p0 p1 p2 b1 w_CronField_MINUTE (0 : Int32) (59 : Int32)) [(.int (1 : Int32)), (.int ((59 : Int32) - (0 : Int32))), (.int (p1 &&& (2147483647 : Int32))), (.int (0 : Int32))])) _
          refine XS.iadd X141.here hx rfl (hb hby at_91) rfl ?_
          show Steps p.tables e below (T141.setTop (mkF m 92 (LS_IIIRRIIuuuu p0 p1 p2 b1 w_CronField_MINUTE (0 : Int32) (59 : Int32)) [(.int (((59 : Int32) - (0 : Int32)) + (1 : Int32))), (.int (p1 &&& (2147483647 : Int32))), (.int (0 : Int32))])) _
          refine Jvm.RoadKit.iremM X141 hx rfl (hb hby at_92) rfl (by decide) ?_
          show Steps p.tables e below (T141.setTop (mkF m 93 (LS_IIIRRIIuuuu p0 p1 p2 b1 w_CronField_MINUTE (0 : Int32) (59 : Int32)) [(.int ((p1 &&& (2147483647 : Int32)) % (((59 : Int32) - (0 : Int32)) + (1 : Int32)))), (.int (0 : Int32))])) _
          refine XS.iadd X141.here hx rfl (hb hby at_93) rfl ?_
          show Steps p.tables e below (T141.setTop (mkF m 94 (LS_IIIRRIIuuuu p0 p1 p2 b1 w_CronField_MINUTE (0 : Int32) (59 : Int32)) [(.int ((0 : Int32) + ((p1 &&& (2147483647 : Int32)) % (((59 : Int32) - (0 : Int32)) + (1 : Int32)))))])) _
          refine XS.istore X141.here hx rfl (hb hby at_94) rfl (l' := (LS_IIIRRIIIuuu p0 p1 p2 b1 w_CronField_MINUTE (0 : Int32) (59 : Int32) ((0 : Int32) + ((p1 &&& (2147483647 : Int32)) % (((59 : Int32) - (0 : Int32)) + (1 : Int32)))))) rfl ?_
          exact k
        exact rest142 ((0 : Int32) + ((p1 &&& (2147483647 : Int32)) % (((59 : Int32) - (0 : Int32)) + (1 : Int32)))) _ X141 e141
      · refine own_go (B := T141.setTop (mkF m 96 (LS_IIIRRIIIuuu p0 p1 p2 b1 w_CronField_MINUTE (0 : Int32) (59 : Int32) p1) [])) (fun t k => ?_) ?_
        · show Steps p.tables e below (T141.setTop (mkF m 70 (LS_IIIRRIIuuuu p0 p1 p2 b1 w_CronField_MINUTE (0 : Int32) (59 : Int32)) [(.int (p2 &&& (1 : Int32)))])) _
          refine XS.ifNo X141.here hx rfl (hb hby at_70) rfl ((if0 _ _).trans (feq hc70_157).1) ?_
          show Steps p.tables e below (T141.setTop (mkF m 73 (LS_IIIRRIIuuuu p0 p1 p2 b1 w_CronField_MINUTE (0 : Int32) (59 : Int32)) [])) _
          refine XS.iloadN X141.here hx rfl (hb hby at_73) rfl ?_
          show Steps p.tables e below (T141.setTop (mkF m 74 (LS_IIIRRIIuuuu p0 p1 p2 b1 w_CronField_MINUTE (0 : Int32) (59 : Int32)) [(.int p1)])) _
          refine XS.istore X141.here hx rfl (hb hby at_74) rfl (l' := (LS_IIIRRIIIuuu p0 p1 p2 b1 w_CronField_MINUTE (0 : Int32) (59 : Int32) p1)) rfl ?_
          show Steps p.tables e below (T141.setTop (mkF m 76 (LS_IIIRRIIIuuu p0 p1 p2 b1 w_CronField_MINUTE (0 : Int32) (59 : Int32) p1) [])) _
          refine XS.goto X141.here hx rfl (pc0 := 76) (pc' := 96) rfl (hb hby at_76) (by decide) (by decide) ?_
          exact k
        exact rest142 p1 _ X141 e141
  · rw [hk62]
    obtain ⟨cl158, Ar158, qa158, Sa158, Na158, Ha158, Ga158⟩ := V55
    have hin159 : ¬ ((2 : Int32) < 0 ∨ cl158.slots.size ≤ ((2 : Int32)).toNatClampNeg) := inb_of Sa158 ⟨by decide, by decide⟩
    have hat159 : cl158.slots[((2 : Int32)).toNatClampNeg]? = some (.ref w_CronField_HOUR) := Has.at Ha158 hin159 rfl
    refine own_go (B := T55.setTop (mkF m 55 (LS_IIIRRuuuuuu p0 p1 p2 b1 w_CronField_HOUR) [(.ref w_CronField_HOUR)])) (fun t k => ?_) ?_
    · show Steps p.tables e below (T55.setTop (mkF m 50 (LS_IIIRuuuuuuu p0 p1 p2 b1) [(.int (2 : Int32)), (.ref b1)])) _
      refine X55.aaload hx (j := (2 : Int32)) (v := (.ref w_CronField_HOUR)) (by rw [e55]; exact Ar158.1) (State.isArrayOf_alike hZ.alike Ar158.2.1) rfl Ar158.2.2 hin159 hat159 (g := (mkF m 50 (LS_IIIRuuuuuuu p0 p1 p2 b1) [(.int (2 : Int32)), (.ref b1)])) rfl rfl (hb hby at_50) _ ?_
      show Steps p.tables e below (T55.setTop (mkF m 51 (LS_IIIRuuuuuuu p0 p1 p2 b1) [(.ref w_CronField_HOUR)])) _
      refine XS.astore X55.here hx rfl (hb hby at_51) rfl rfl (l' := (LS_IIIRRuuuuuu p0 p1 p2 b1 w_CronField_HOUR)) rfl ?_
      show Steps p.tables e below (T55.setTop (mkF m 53 (LS_IIIRRuuuuuu p0 p1 p2 b1 w_CronField_HOUR) [])) _
      refine XS.aload X55.here hx rfl (hb hby at_53) rfl rfl ?_
      exact k
    have F_CronField_HOUR_min_v160 := F_CronField_HOUR_min.ext E1
    have ne162 : w_CronField_HOUR ≠ b1 := Nat.ne_of_lt (Nat.lt_of_lt_of_le F_CronField_HOUR_min.lt (Nat.le_of_eq g1.symm))
    have F_CronField_HOUR_min_v161 := F_CronField_HOUR_min_v160.other W5 (Or.inl ne162)
    have F_CronField_HOUR_min_v163 := F_CronField_HOUR_min_v161.other W11 (Or.inl ne162)
    have F_CronField_HOUR_min_v164 := F_CronField_HOUR_min_v163.other W19 (Or.inl ne162)
    have F_CronField_HOUR_min_v165 := F_CronField_HOUR_min_v164.other W29 (Or.inl ne162)
    have F_CronField_HOUR_min_v166 := F_CronField_HOUR_min_v165.other W41 (Or.inl ne162)
    have F_CronField_HOUR_min_v167 := F_CronField_HOUR_min_v166.other W55 (Or.inl ne162)
    have Z0_v168 := Nat.le_trans Z0 E1.1
    have Z0_v169 := Nat.le_trans Z0_v168 (Nat.le_of_eq W5.size.symm)
    have Z0_v170 := Nat.le_trans Z0_v169 (Nat.le_of_eq W11.size.symm)
    have Z0_v171 := Nat.le_trans Z0_v170 (Nat.le_of_eq W19.size.symm)
    have Z0_v172 := Nat.le_trans Z0_v171 (Nat.le_of_eq W29.size.symm)
    have Z0_v173 := Nat.le_trans Z0_v172 (Nat.le_of_eq W41.size.symm)
    have Z0_v174 := Nat.le_trans Z0_v173 (Nat.le_of_eq W55.size.symm)
    have E_CronField_HOUR_v176 := E_CronField_HOUR_v22.wr W19
    have E_CronField_HOUR_v177 := E_CronField_HOUR_v176.wr W29
    have E_CronField_HOUR_v178 := E_CronField_HOUR_v177.wr W41
    have E_CronField_HOUR_v179 := E_CronField_HOUR_v178.wr W55
    obtain ⟨cq175, kq175, q175a, q175b, q175c⟩ := isOf hZ e55 E_CronField_HOUR_v179
    obtain ⟨_, _, ⟨T175, L175, k175, n175⟩, -, X175, ⟨Lc175, hQ175, l175, y175, z175⟩, st175⟩ := X55.virtualBack hx (y := (⟨"com/example/murray_hill/murrayhill/cron/CronField", "min", "()I"⟩ : MethodName)) (z := (⟨"com/example/murray_hill/murrayhill/cron/CronField", "min", "()I"⟩ : MethodName)) hown (mvT hZ (hw _ (List.mem_of_getElem? (i := 17) rfl))) (mvT hZ (hw _ (List.mem_of_getElem? (i := 18) rfl))) (notFace_of_selects (args := #[]) (mvT hZ (hw _ (List.mem_of_getElem? (i := 20) rfl)))) (mvT hZ (hw _ (List.mem_of_getElem? (i := 20) rfl))) (mvT hZ (hw _ (List.mem_of_getElem? (i := 19) rfl))) (by decide) (backOf (W := 0) (rm1 l Z a0 hw [] w_CronField_HOUR (0 : Int32) h55 n0 Z0_v174 F_CronField_HOUR_min_v167) hZ (hw _ (List.mem_of_getElem? (i := 21) rfl)) (hw _ (List.mem_of_getElem? (i := 3) rfl)) (by decide) (by decide)) q175a q175c (g := (mkF m 55 (LS_IIIRRuuuuuu p0 p1 p2 b1 w_CronField_HOUR) [(.ref w_CronField_HOUR)])) rfl (by rw [hml]; rfl) (Steps.refl _) (argsL := []) (rest := []) (lenOf pd___I rfl) rfl (by show 2 * 0 + _ ≤ _; exact Nat.le_of_eq rfl) (hb hby at_55) (fun _ _ => ⟨rfl, e55, (by decide : 1 + 0 ≤ _), (by decide : 6 + 0 ≤ _)⟩)
    dsimp only [Pt.U, Pt.locs, Pt.cells, Pt.slots] at X175 l175 y175 z175 st175 hQ175
    subst l175 y175 z175
    obtain ⟨rfl, N175q, e175⟩ := hQ175
    have N175 := Fr.app N55 N175q
    refine own_go (B := T175.setTop (mkF m 58 (LS_IIIRRuuuuuu p0 p1 p2 b1 w_CronField_HOUR) [(.int (0 : Int32))])) (fun t k => st175.trans k) ?_
    refine own_go (B := T175.setTop (mkF m 62 (LS_IIIRRIuuuuu p0 p1 p2 b1 w_CronField_HOUR (0 : Int32)) [(.ref w_CronField_HOUR)])) (fun t k => ?_) ?_
    · show Steps p.tables e below (T175.setTop (mkF m 58 (LS_IIIRRuuuuuu p0 p1 p2 b1 w_CronField_HOUR) [(.int (0 : Int32))])) _
      refine XS.istore X175.here hx rfl (hb hby at_58) rfl (l' := (LS_IIIRRIuuuuu p0 p1 p2 b1 w_CronField_HOUR (0 : Int32))) rfl ?_
      show Steps p.tables e below (T175.setTop (mkF m 60 (LS_IIIRRIuuuuu p0 p1 p2 b1 w_CronField_HOUR (0 : Int32)) [])) _
      refine XS.aload X175.here hx rfl (hb hby at_60) rfl rfl ?_
      exact k
    have F_CronField_HOUR_max_v180 := F_CronField_HOUR_max.ext E1
    have F_CronField_HOUR_max_v181 := F_CronField_HOUR_max_v180.other W5 (Or.inl ne162)
    have F_CronField_HOUR_max_v182 := F_CronField_HOUR_max_v181.other W11 (Or.inl ne162)
    have F_CronField_HOUR_max_v183 := F_CronField_HOUR_max_v182.other W19 (Or.inl ne162)
    have F_CronField_HOUR_max_v184 := F_CronField_HOUR_max_v183.other W29 (Or.inl ne162)
    have F_CronField_HOUR_max_v185 := F_CronField_HOUR_max_v184.other W41 (Or.inl ne162)
    have F_CronField_HOUR_max_v186 := F_CronField_HOUR_max_v185.other W55 (Or.inl ne162)
    obtain ⟨cq187, kq187, q187a, q187b, q187c⟩ := isOf hZ e175 E_CronField_HOUR_v179
    obtain ⟨_, _, ⟨T187, L187, k187, n187⟩, -, X187, ⟨Lc187, hQ187, l187, y187, z187⟩, st187⟩ := X175.virtualBack hx (y := (⟨"com/example/murray_hill/murrayhill/cron/CronField", "max", "()I"⟩ : MethodName)) (z := (⟨"com/example/murray_hill/murrayhill/cron/CronField", "max", "()I"⟩ : MethodName)) hown (mvT hZ (hw _ (List.mem_of_getElem? (i := 24) rfl))) (mvT hZ (hw _ (List.mem_of_getElem? (i := 25) rfl))) (notFace_of_selects (args := #[]) (mvT hZ (hw _ (List.mem_of_getElem? (i := 27) rfl)))) (mvT hZ (hw _ (List.mem_of_getElem? (i := 27) rfl))) (mvT hZ (hw _ (List.mem_of_getElem? (i := 26) rfl))) (by decide) (backOf (W := 0) (rm2 l Z a0 hw [] w_CronField_HOUR (23 : Int32) h55 n0 Z0_v174 F_CronField_HOUR_max_v186) hZ (hw _ (List.mem_of_getElem? (i := 28) rfl)) (hw _ (List.mem_of_getElem? (i := 3) rfl)) (by decide) (by decide)) q187a q187c (g := (mkF m 62 (LS_IIIRRIuuuuu p0 p1 p2 b1 w_CronField_HOUR (0 : Int32)) [(.ref w_CronField_HOUR)])) rfl (by rw [hml]; rfl) (Steps.refl _) (argsL := []) (rest := []) (lenOf pd___I rfl) rfl (by show 2 * 0 + _ ≤ _; exact Nat.le_of_eq rfl) (hb hby at_62) (fun _ _ => ⟨rfl, e175, (by decide : 1 + 0 ≤ _), (by decide : 6 + 0 ≤ _)⟩)
    dsimp only [Pt.U, Pt.locs, Pt.cells, Pt.slots] at X187 l187 y187 z187 st187 hQ187
    subst l187 y187 z187
    obtain ⟨rfl, N187q, e187⟩ := hQ187
    have N187 := Fr.app N175 N187q
    refine own_go (B := T187.setTop (mkF m 65 (LS_IIIRRIuuuuu p0 p1 p2 b1 w_CronField_HOUR (0 : Int32)) [(.int (23 : Int32))])) (fun t k => st187.trans k) ?_
    refine own_go (B := T187.setTop (mkF m 67 (LS_IIIRRIIuuuu p0 p1 p2 b1 w_CronField_HOUR (0 : Int32) (23 : Int32)) [])) (fun t k => ?_) ?_
    · show Steps p.tables e below (T187.setTop (mkF m 65 (LS_IIIRRIuuuuu p0 p1 p2 b1 w_CronField_HOUR (0 : Int32)) [(.int (23 : Int32))])) _
      refine XS.istore X187.here hx rfl (hb hby at_65) rfl (l' := (LS_IIIRRIIuuuu p0 p1 p2 b1 w_CronField_HOUR (0 : Int32) (23 : Int32))) rfl ?_
      exact k
    refine own_join X187 (ι := Int32) (fun i188 T' => T'.heap = h55) (fun i188 => mkF m 96 (LS_IIIRRIIIuuu p0 p1 p2 b1 w_CronField_HOUR (0 : Int32) (23 : Int32) i188) []) ?_ ?_
    · intro x7 T188 X188 hi188
      have e188 := hi188
      refine own_go (B := T188.setTop (mkF m 100 (LS_IIIRRIIIuuu p0 p1 p2 b1 w_CronField_HOUR (0 : Int32) (23 : Int32) x7) [(.int x7), (.int (0 : Int32))])) (fun t k => ?_) ?_
      · show Steps p.tables e below (T188.setTop (mkF m 96 (LS_IIIRRIIIuuu p0 p1 p2 b1 w_CronField_HOUR (0 : Int32) (23 : Int32) x7) [])) _
        refine XS.iload X188.here hx rfl (hb hby at_96) rfl ?_
        show Steps p.tables e below (T188.setTop (mkF m 98 (LS_IIIRRIIIuuu p0 p1 p2 b1 w_CronField_HOUR (0 : Int32) (23 : Int32) x7) [(.int (0 : Int32))])) _
        refine XS.iload X188.here hx rfl (hb hby at_98) rfl ?_
        exact k
      by_cases hc100_189 : x7 < (0 : Int32)
      · have S_CronField_DAY_OF_WEEK_v190 := S_CronField_DAY_OF_WEEK_v52.wr W55
        refine own_go (B := T188.setTop (mkF m 119 (LS_IIIRRIIIIuu p0 p1 p2 b1 w_CronField_HOUR (0 : Int32) (23 : Int32) x7 (0 : Int32)) [(.ref w_CronField_HOUR)])) (fun t k => ?_) ?_
        · show Steps p.tables e below (T188.setTop (mkF m 100 (LS_IIIRRIIIuuu p0 p1 p2 b1 w_CronField_HOUR (0 : Int32) (23 : Int32) x7) [(.int x7), (.int (0 : Int32))])) _
          refine XS.icmpYes X188.here hx rfl (pc0 := 100) (pc' := 114) rfl (hb hby at_100) rfl (tlt hc100_189).2.2.1 (by decide) (by decide) ?_
          show Steps p.tables e below (T188.setTop (mkF m 114 (LS_IIIRRIIIuuu p0 p1 p2 b1 w_CronField_HOUR (0 : Int32) (23 : Int32) x7) [])) _
          refine XS.iconst X188.here hx rfl (hb hby at_114) ?_
          show Steps p.tables e below (T188.setTop (mkF m 115 (LS_IIIRRIIIuuu p0 p1 p2 b1 w_CronField_HOUR (0 : Int32) (23 : Int32) x7) [(.int (0 : Int32))])) _
          refine XS.istore X188.here hx rfl (hb hby at_115) rfl (l' := (LS_IIIRRIIIIuu p0 p1 p2 b1 w_CronField_HOUR (0 : Int32) (23 : Int32) x7 (0 : Int32))) rfl ?_
          show Steps p.tables e below (T188.setTop (mkF m 117 (LS_IIIRRIIIIuu p0 p1 p2 b1 w_CronField_HOUR (0 : Int32) (23 : Int32) x7 (0 : Int32)) [])) _
          refine XS.aload X188.here hx rfl (hb hby at_117) rfl rfl ?_
          exact k
        obtain ⟨T191, X191, e191, st191⟩ := getS2 X188 hx hZ hown (host := "") (Or.inl (hw _ (List.mem_of_getElem? (i := 14) rfl))) Via.refl e188 S_CronField_DAY_OF_WEEK_v190 (g := (mkF m 119 (LS_IIIRRIIIIuu p0 p1 p2 b1 w_CronField_HOUR (0 : Int32) (23 : Int32) x7 (0 : Int32)) [(.ref w_CronField_HOUR)])) rfl (hb hby at_119)
        refine own_go (B := T191.setTop (mkF m 122 (LS_IIIRRIIIIuu p0 p1 p2 b1 w_CronField_HOUR (0 : Int32) (23 : Int32) x7 (0 : Int32)) [(.ref w_CronField_DAY_OF_WEEK), (.ref w_CronField_HOUR)])) (fun t k => st191 _ k) ?_
        refine own_go (B := T191.setTop (mkF m 148 (LS_IIIRRIIIIIu p0 p1 p2 b1 w_CronField_HOUR (0 : Int32) (23 : Int32) x7 (0 : Int32) x7) [(.int x7), (.ref w_CronField_HOUR)])) (fun t k => ?_) ?_
        · show Steps p.tables e below (T191.setTop (mkF m 122 (LS_IIIRRIIIIuu p0 p1 p2 b1 w_CronField_HOUR (0 : Int32) (23 : Int32) x7 (0 : Int32)) [(.ref w_CronField_DAY_OF_WEEK), (.ref w_CronField_HOUR)])) _
          refine Jvm.RoadKit.acmp (g := (mkF m 122 (LS_IIIRRIIIIuu p0 p1 p2 b1 w_CronField_HOUR (0 : Int32) (23 : Int32) x7 (0 : Int32)) [(.ref w_CronField_DAY_OF_WEEK), (.ref w_CronField_HOUR)])) X191 hx rfl rfl rfl (pc0 := 122) (pc' := 140) (same := false) rfl (hb hby at_122) rfl (decide_eq_false fun q => (Fld.ne F_CronField_HOUR_ordinal F_CronField_DAY_OF_WEEK_ordinal (by decide)) (Value.ref.inj q)) (by decide) (by decide) ?_
          show Steps p.tables e below (T191.setTop (mkF m 140 (LS_IIIRRIIIIuu p0 p1 p2 b1 w_CronField_HOUR (0 : Int32) (23 : Int32) x7 (0 : Int32)) [])) _
          refine XS.iload X191.here hx rfl (hb hby at_140) rfl ?_
          show Steps p.tables e below (T191.setTop (mkF m 142 (LS_IIIRRIIIIuu p0 p1 p2 b1 w_CronField_HOUR (0 : Int32) (23 : Int32) x7 (0 : Int32)) [(.int x7)])) _
          refine XS.istore X191.here hx rfl (hb hby at_142) rfl (l' := (LS_IIIRRIIIIIu p0 p1 p2 b1 w_CronField_HOUR (0 : Int32) (23 : Int32) x7 (0 : Int32) x7)) rfl ?_
          show Steps p.tables e below (T191.setTop (mkF m 144 (LS_IIIRRIIIIIu p0 p1 p2 b1 w_CronField_HOUR (0 : Int32) (23 : Int32) x7 (0 : Int32) x7) [])) _
          refine XS.aload X191.here hx rfl (hb hby at_144) rfl rfl ?_
          show Steps p.tables e below (T191.setTop (mkF m 146 (LS_IIIRRIIIIIu p0 p1 p2 b1 w_CronField_HOUR (0 : Int32) (23 : Int32) x7 (0 : Int32) x7) [(.ref w_CronField_HOUR)])) _
          refine XS.iload X191.here hx rfl (hb hby at_146) rfl ?_
          exact k
        obtain ⟨cq192, kq192, q192a, q192b, q192c⟩ := isOf hZ e191 E_CronField_HOUR_v179
        obtain ⟨_, _, ⟨T192, L192, k192, n192⟩, -, X192, ⟨Lc192, hQ192, l192, y192, z192⟩, st192⟩ := X191.virtualBack hx (y := (⟨"com/example/murray_hill/murrayhill/cron/CronField", "canonical", "(I)I"⟩ : MethodName)) (z := (⟨"com/example/murray_hill/murrayhill/cron/CronField", "canonical", "(I)I"⟩ : MethodName)) hown (mvT hZ (hw _ (List.mem_of_getElem? (i := 31) rfl))) (mvT hZ (hw _ (List.mem_of_getElem? (i := 32) rfl))) (notFace_of_selects (args := #[]) (mvT hZ (hw _ (List.mem_of_getElem? (i := 34) rfl)))) (mvT hZ (hw _ (List.mem_of_getElem? (i := 34) rfl))) (mvT hZ (hw _ (List.mem_of_getElem? (i := 33) rfl))) (by decide) (backOf (W := 0) (rm3 l Z a0 hw [] w_CronField_HOUR x7 w_CronField_DAY_OF_WEEK h55 n0 Z0_v174 S_CronField_DAY_OF_WEEK_v190) hZ (hw _ (List.mem_of_getElem? (i := 35) rfl)) (hw _ (List.mem_of_getElem? (i := 3) rfl)) (by decide) (by decide)) q192a q192c (g := (mkF m 148 (LS_IIIRRIIIIIu p0 p1 p2 b1 w_CronField_HOUR (0 : Int32) (23 : Int32) x7 (0 : Int32) x7) [(.int x7), (.ref w_CronField_HOUR)])) rfl (by rw [hml]; rfl) (Steps.refl _) (argsL := [(.int x7)]) (rest := []) (lenOf pd__I_I rfl) rfl (by show 2 * 0 + _ ≤ _; exact Nat.le_of_eq rfl) (hb hby at_148) (fun _ _ => ⟨rfl, e191, (by decide : 1 + 0 ≤ _), (by decide : 6 + 0 ≤ _)⟩)
        dsimp only [Pt.U, Pt.locs, Pt.cells, Pt.slots] at X192 l192 y192 z192 st192 hQ192
        subst l192 y192 z192
        obtain ⟨rfl, N192q, e192⟩ := hQ192
        have N192 := Fr.app N187 N192q
        refine own_go (B := T192.setTop (mkF m 151 (LS_IIIRRIIIIIu p0 p1 p2 b1 w_CronField_HOUR (0 : Int32) (23 : Int32) x7 (0 : Int32) x7) [(.int (if w_CronField_HOUR = w_CronField_DAY_OF_WEEK then (if x7 = (7 : Int32) then (0 : Int32) else x7) else x7))])) (fun t k => st192.trans k) ?_
        rw [show (if w_CronField_HOUR = w_CronField_DAY_OF_WEEK then (if x7 = (7 : Int32) then (0 : Int32) else x7) else x7) = x7 from if_neg (Fld.ne F_CronField_HOUR_ordinal F_CronField_DAY_OF_WEEK_ordinal (by decide))]
        refine own_go (B := T192.setTop (mkF m 164 (LS_IIIRRIIIIII p0 p1 p2 b1 w_CronField_HOUR (0 : Int32) (23 : Int32) x7 (0 : Int32) x7 x7) [(.int x7), (.ref w_CronField_HOUR)])) (fun t k => ?_) ?_
        · show Steps p.tables e below (T192.setTop (mkF m 151 (LS_IIIRRIIIIIu p0 p1 p2 b1 w_CronField_HOUR (0 : Int32) (23 : Int32) x7 (0 : Int32) x7) [(.int x7)])) _
          refine XS.istore X192.here hx rfl (hb hby at_151) rfl (l' := (LS_IIIRRIIIIII p0 p1 p2 b1 w_CronField_HOUR (0 : Int32) (23 : Int32) x7 (0 : Int32) x7 x7)) rfl ?_
          show Steps p.tables e below (T192.setTop (mkF m 153 (LS_IIIRRIIIIII p0 p1 p2 b1 w_CronField_HOUR (0 : Int32) (23 : Int32) x7 (0 : Int32) x7 x7) [])) _
          refine XS.iload X192.here hx rfl (hb hby at_153) rfl ?_
          show Steps p.tables e below (T192.setTop (mkF m 155 (LS_IIIRRIIIIII p0 p1 p2 b1 w_CronField_HOUR (0 : Int32) (23 : Int32) x7 (0 : Int32) x7 x7) [(.int x7)])) _
          refine XS.iload X192.here hx rfl (hb hby at_155) rfl ?_
          show Steps p.tables e below (T192.setTop (mkF m 157 (LS_IIIRRIIIIII p0 p1 p2 b1 w_CronField_HOUR (0 : Int32) (23 : Int32) x7 (0 : Int32) x7 x7) [(.int x7), (.int x7)])) _
          refine XS.icmpNo X192.here hx rfl (hb hby at_157) rfl (teq (rfl : x7 = x7)).2 ?_
          show Steps p.tables e below (T192.setTop (mkF m 160 (LS_IIIRRIIIIII p0 p1 p2 b1 w_CronField_HOUR (0 : Int32) (23 : Int32) x7 (0 : Int32) x7 x7) [])) _
          refine XS.aload X192.here hx rfl (hb hby at_160) rfl rfl ?_
          show Steps p.tables e below (T192.setTop (mkF m 162 (LS_IIIRRIIIIII p0 p1 p2 b1 w_CronField_HOUR (0 : Int32) (23 : Int32) x7 (0 : Int32) x7 x7) [(.ref w_CronField_HOUR)])) _
          refine XS.iload X192.here hx rfl (hb hby at_162) rfl ?_
          exact k
        obtain ⟨cq193, kq193, q193a, q193b, q193c⟩ := isOf hZ e192 E_CronField_HOUR_v179
        obtain ⟨_, _, ⟨T193, L193, k193, n193⟩, -, X193, ⟨Lc193, hQ193, l193, y193, z193⟩, st193⟩ := X192.virtualBack hx (y := (⟨"com/example/murray_hill/murrayhill/cron/CronField", "canonical", "(I)I"⟩ : MethodName)) (z := (⟨"com/example/murray_hill/murrayhill/cron/CronField", "canonical", "(I)I"⟩ : MethodName)) hown (mvT hZ (hw _ (List.mem_of_getElem? (i := 31) rfl))) (mvT hZ (hw _ (List.mem_of_getElem? (i := 32) rfl))) (notFace_of_selects (args := #[]) (mvT hZ (hw _ (List.mem_of_getElem? (i := 34) rfl)))) (mvT hZ (hw _ (List.mem_of_getElem? (i := 34) rfl))) (mvT hZ (hw _ (List.mem_of_getElem? (i := 33) rfl))) (by decide) (backOf (W := 0) (rm3 l Z a0 hw [] w_CronField_HOUR x7 w_CronField_DAY_OF_WEEK h55 n0 Z0_v174 S_CronField_DAY_OF_WEEK_v190) hZ (hw _ (List.mem_of_getElem? (i := 35) rfl)) (hw _ (List.mem_of_getElem? (i := 3) rfl)) (by decide) (by decide)) q193a q193c (g := (mkF m 164 (LS_IIIRRIIIIII p0 p1 p2 b1 w_CronField_HOUR (0 : Int32) (23 : Int32) x7 (0 : Int32) x7 x7) [(.int x7), (.ref w_CronField_HOUR)])) rfl (by rw [hml]; rfl) (Steps.refl _) (argsL := [(.int x7)]) (rest := []) (lenOf pd__I_I rfl) rfl (by show 2 * 0 + _ ≤ _; exact Nat.le_of_eq rfl) (hb hby at_164) (fun _ _ => ⟨rfl, e192, (by decide : 1 + 0 ≤ _), (by decide : 6 + 0 ≤ _)⟩)
        dsimp only [Pt.U, Pt.locs, Pt.cells, Pt.slots] at X193 l193 y193 z193 st193 hQ193
        subst l193 y193 z193
        obtain ⟨rfl, N193q, e193⟩ := hQ193
        have N193 := Fr.app N192 N193q
        refine own_go (B := T193.setTop (mkF m 167 (LS_IIIRRIIIIII p0 p1 p2 b1 w_CronField_HOUR (0 : Int32) (23 : Int32) x7 (0 : Int32) x7 x7) [(.int (if w_CronField_HOUR = w_CronField_DAY_OF_WEEK then (if x7 = (7 : Int32) then (0 : Int32) else x7) else x7))])) (fun t k => st193.trans k) ?_
        rw [show (if w_CronField_HOUR = w_CronField_DAY_OF_WEEK then (if x7 = (7 : Int32) then (0 : Int32) else x7) else x7) = x7 from if_neg (Fld.ne F_CronField_HOUR_ordinal F_CronField_DAY_OF_WEEK_ordinal (by decide))]
        refine own_go (B := T193.setTop (mkF m 177 (LS_IIIRRIIIIII p0 p1 p2 b1 w_CronField_HOUR (0 : Int32) (23 : Int32) x7 (0 : Int32) x7 x7) [(.int (1 : Int32))])) (fun t k => ?_) ?_
        · show Steps p.tables e below (T193.setTop (mkF m 167 (LS_IIIRRIIIIII p0 p1 p2 b1 w_CronField_HOUR (0 : Int32) (23 : Int32) x7 (0 : Int32) x7 x7) [(.int x7)])) _
          refine XS.iload X193.here hx rfl (hb hby at_167) rfl ?_
          show Steps p.tables e below (T193.setTop (mkF m 169 (LS_IIIRRIIIIII p0 p1 p2 b1 w_CronField_HOUR (0 : Int32) (23 : Int32) x7 (0 : Int32) x7 x7) [(.int x7), (.int x7)])) _
          refine XS.icmpNo X193.here hx rfl (hb hby at_169) rfl (teq (rfl : x7 = x7)).2 ?_
          show Steps p.tables e below (T193.setTop (mkF m 172 (LS_IIIRRIIIIII p0 p1 p2 b1 w_CronField_HOUR (0 : Int32) (23 : Int32) x7 (0 : Int32) x7 x7) [])) _
          refine XS.iconst X193.here hx rfl (hb hby at_172) ?_
          show Steps p.tables e below (T193.setTop (mkF m 173 (LS_IIIRRIIIIII p0 p1 p2 b1 w_CronField_HOUR (0 : Int32) (23 : Int32) x7 (0 : Int32) x7 x7) [(.int (1 : Int32))])) _
          refine XS.goto X193.here hx rfl (pc0 := 173) (pc' := 177) rfl (hb hby at_173) (by decide) (by decide) ?_
          exact k
        obtain ⟨fs, hr, hrun, hended, hW, hsame⟩ := X193.leave (v := some (.int (1 : Int32))) (fun h => by rw [Bd.returns] at h; cases h)
        refine ⟨_, _, ?_, hrun, hended, _, _, rfl, ?_, ⟨_, rfl⟩, hW, hsame.mono (by decide) (by decide)⟩
        · show Steps p.tables e below (T193.setTop (mkF m 177 (LS_IIIRRIIIIII p0 p1 p2 b1 w_CronField_HOUR (0 : Int32) (23 : Int32) x7 (0 : Int32) x7 x7) [(.int (1 : Int32))])) _
          exact retN X193 hx (t := .boolean) Bd.returns (by simp) (hb hby at_177) hr
        · show Q0 Z p0 p1 p2 w_CronField_SECOND w_CronField_MINUTE w_CronField_HOUR w_CronField_DAY_OF_MONTH w_CronField_MONTH w_CronField_DAY_OF_WEEK h0 n0 _ T193.heap _
          rw [e193]
          exact ⟨rfl, N193⟩
      · refine own_go (B := T188.setTop (mkF m 107 (LS_IIIRRIIIuuu p0 p1 p2 b1 w_CronField_HOUR (0 : Int32) (23 : Int32) x7) [(.int (23 : Int32)), (.int x7)])) (fun t k => ?_) ?_
        · show Steps p.tables e below (T188.setTop (mkF m 100 (LS_IIIRRIIIuuu p0 p1 p2 b1 w_CronField_HOUR (0 : Int32) (23 : Int32) x7) [(.int x7), (.int (0 : Int32))])) _
          refine XS.icmpNo X188.here hx rfl (hb hby at_100) rfl (flt hc100_189).2.2.1 ?_
          show Steps p.tables e below (T188.setTop (mkF m 103 (LS_IIIRRIIIuuu p0 p1 p2 b1 w_CronField_HOUR (0 : Int32) (23 : Int32) x7) [])) _
          refine XS.iload X188.here hx rfl (hb hby at_103) rfl ?_
          show Steps p.tables e below (T188.setTop (mkF m 105 (LS_IIIRRIIIuuu p0 p1 p2 b1 w_CronField_HOUR (0 : Int32) (23 : Int32) x7) [(.int x7)])) _
          refine XS.iload X188.here hx rfl (hb hby at_105) rfl ?_
          exact k
        by_cases hc107_194 : (23 : Int32) < x7
        · have S_CronField_DAY_OF_WEEK_v195 := S_CronField_DAY_OF_WEEK_v52.wr W55
          refine own_go (B := T188.setTop (mkF m 119 (LS_IIIRRIIIIuu p0 p1 p2 b1 w_CronField_HOUR (0 : Int32) (23 : Int32) x7 (0 : Int32)) [(.ref w_CronField_HOUR)])) (fun t k => ?_) ?_
          · show Steps p.tables e below (T188.setTop (mkF m 107 (LS_IIIRRIIIuuu p0 p1 p2 b1 w_CronField_HOUR (0 : Int32) (23 : Int32) x7) [(.int (23 : Int32)), (.int x7)])) _
            refine XS.icmpYes X188.here hx rfl (pc0 := 107) (pc' := 114) rfl (hb hby at_107) rfl (tlt hc107_194).2.2.1 (by decide) (by decide) ?_
            show Steps p.tables e below (T188.setTop (mkF m 114 (LS_IIIRRIIIuuu p0 p1 p2 b1 w_CronField_HOUR (0 : Int32) (23 : Int32) x7) [])) _
            refine XS.iconst X188.here hx rfl (hb hby at_114) ?_
            show Steps p.tables e below (T188.setTop (mkF m 115 (LS_IIIRRIIIuuu p0 p1 p2 b1 w_CronField_HOUR (0 : Int32) (23 : Int32) x7) [(.int (0 : Int32))])) _
            refine XS.istore X188.here hx rfl (hb hby at_115) rfl (l' := (LS_IIIRRIIIIuu p0 p1 p2 b1 w_CronField_HOUR (0 : Int32) (23 : Int32) x7 (0 : Int32))) rfl ?_
            show Steps p.tables e below (T188.setTop (mkF m 117 (LS_IIIRRIIIIuu p0 p1 p2 b1 w_CronField_HOUR (0 : Int32) (23 : Int32) x7 (0 : Int32)) [])) _
            refine XS.aload X188.here hx rfl (hb hby at_117) rfl rfl ?_
            exact k
          obtain ⟨T196, X196, e196, st196⟩ := getS2 X188 hx hZ hown (host := "") (Or.inl (hw _ (List.mem_of_getElem? (i := 14) rfl))) Via.refl e188 S_CronField_DAY_OF_WEEK_v195 (g := (mkF m 119 (LS_IIIRRIIIIuu p0 p1 p2 b1 w_CronField_HOUR (0 : Int32) (23 : Int32) x7 (0 : Int32)) [(.ref w_CronField_HOUR)])) rfl (hb hby at_119)
          refine own_go (B := T196.setTop (mkF m 122 (LS_IIIRRIIIIuu p0 p1 p2 b1 w_CronField_HOUR (0 : Int32) (23 : Int32) x7 (0 : Int32)) [(.ref w_CronField_DAY_OF_WEEK), (.ref w_CronField_HOUR)])) (fun t k => st196 _ k) ?_
          refine own_go (B := T196.setTop (mkF m 148 (LS_IIIRRIIIIIu p0 p1 p2 b1 w_CronField_HOUR (0 : Int32) (23 : Int32) x7 (0 : Int32) x7) [(.int x7), (.ref w_CronField_HOUR)])) (fun t k => ?_) ?_
          · show Steps p.tables e below (T196.setTop (mkF m 122 (LS_IIIRRIIIIuu p0 p1 p2 b1 w_CronField_HOUR (0 : Int32) (23 : Int32) x7 (0 : Int32)) [(.ref w_CronField_DAY_OF_WEEK), (.ref w_CronField_HOUR)])) _
            refine Jvm.RoadKit.acmp (g := (mkF m 122 (LS_IIIRRIIIIuu p0 p1 p2 b1 w_CronField_HOUR (0 : Int32) (23 : Int32) x7 (0 : Int32)) [(.ref w_CronField_DAY_OF_WEEK), (.ref w_CronField_HOUR)])) X196 hx rfl rfl rfl (pc0 := 122) (pc' := 140) (same := false) rfl (hb hby at_122) rfl (decide_eq_false fun q => (Fld.ne F_CronField_HOUR_ordinal F_CronField_DAY_OF_WEEK_ordinal (by decide)) (Value.ref.inj q)) (by decide) (by decide) ?_
            show Steps p.tables e below (T196.setTop (mkF m 140 (LS_IIIRRIIIIuu p0 p1 p2 b1 w_CronField_HOUR (0 : Int32) (23 : Int32) x7 (0 : Int32)) [])) _
            refine XS.iload X196.here hx rfl (hb hby at_140) rfl ?_
            show Steps p.tables e below (T196.setTop (mkF m 142 (LS_IIIRRIIIIuu p0 p1 p2 b1 w_CronField_HOUR (0 : Int32) (23 : Int32) x7 (0 : Int32)) [(.int x7)])) _
            refine XS.istore X196.here hx rfl (hb hby at_142) rfl (l' := (LS_IIIRRIIIIIu p0 p1 p2 b1 w_CronField_HOUR (0 : Int32) (23 : Int32) x7 (0 : Int32) x7)) rfl ?_
            show Steps p.tables e below (T196.setTop (mkF m 144 (LS_IIIRRIIIIIu p0 p1 p2 b1 w_CronField_HOUR (0 : Int32) (23 : Int32) x7 (0 : Int32) x7) [])) _
            refine XS.aload X196.here hx rfl (hb hby at_144) rfl rfl ?_
            show Steps p.tables e below (T196.setTop (mkF m 146 (LS_IIIRRIIIIIu p0 p1 p2 b1 w_CronField_HOUR (0 : Int32) (23 : Int32) x7 (0 : Int32) x7) [(.ref w_CronField_HOUR)])) _
            refine XS.iload X196.here hx rfl (hb hby at_146) rfl ?_
            exact k
          obtain ⟨cq197, kq197, q197a, q197b, q197c⟩ := isOf hZ e196 E_CronField_HOUR_v179
          obtain ⟨_, _, ⟨T197, L197, k197, n197⟩, -, X197, ⟨Lc197, hQ197, l197, y197, z197⟩, st197⟩ := X196.virtualBack hx (y := (⟨"com/example/murray_hill/murrayhill/cron/CronField", "canonical", "(I)I"⟩ : MethodName)) (z := (⟨"com/example/murray_hill/murrayhill/cron/CronField", "canonical", "(I)I"⟩ : MethodName)) hown (mvT hZ (hw _ (List.mem_of_getElem? (i := 31) rfl))) (mvT hZ (hw _ (List.mem_of_getElem? (i := 32) rfl))) (notFace_of_selects (args := #[]) (mvT hZ (hw _ (List.mem_of_getElem? (i := 34) rfl)))) (mvT hZ (hw _ (List.mem_of_getElem? (i := 34) rfl))) (mvT hZ (hw _ (List.mem_of_getElem? (i := 33) rfl))) (by decide) (backOf (W := 0) (rm3 l Z a0 hw [] w_CronField_HOUR x7 w_CronField_DAY_OF_WEEK h55 n0 Z0_v174 S_CronField_DAY_OF_WEEK_v195) hZ (hw _ (List.mem_of_getElem? (i := 35) rfl)) (hw _ (List.mem_of_getElem? (i := 3) rfl)) (by decide) (by decide)) q197a q197c (g := (mkF m 148 (LS_IIIRRIIIIIu p0 p1 p2 b1 w_CronField_HOUR (0 : Int32) (23 : Int32) x7 (0 : Int32) x7) [(.int x7), (.ref w_CronField_HOUR)])) rfl (by rw [hml]; rfl) (Steps.refl _) (argsL := [(.int x7)]) (rest := []) (lenOf pd__I_I rfl) rfl (by show 2 * 0 + _ ≤ _; exact Nat.le_of_eq rfl) (hb hby at_148) (fun _ _ => ⟨rfl, e196, (by decide : 1 + 0 ≤ _), (by decide : 6 + 0 ≤ _)⟩)
          dsimp only [Pt.U, Pt.locs, Pt.cells, Pt.slots] at X197 l197 y197 z197 st197 hQ197
          subst l197 y197 z197
          obtain ⟨rfl, N197q, e197⟩ := hQ197
          have N197 := Fr.app N187 N197q
          refine own_go (B := T197.setTop (mkF m 151 (LS_IIIRRIIIIIu p0 p1 p2 b1 w_CronField_HOUR (0 : Int32) (23 : Int32) x7 (0 : Int32) x7) [(.int (if w_CronField_HOUR = w_CronField_DAY_OF_WEEK then (if x7 = (7 : Int32) then (0 : Int32) else x7) else x7))])) (fun t k => st197.trans k) ?_
          rw [show (if w_CronField_HOUR = w_CronField_DAY_OF_WEEK then (if x7 = (7 : Int32) then (0 : Int32) else x7) else x7) = x7 from if_neg (Fld.ne F_CronField_HOUR_ordinal F_CronField_DAY_OF_WEEK_ordinal (by decide))]
          refine own_go (B := T197.setTop (mkF m 164 (LS_IIIRRIIIIII p0 p1 p2 b1 w_CronField_HOUR (0 : Int32) (23 : Int32) x7 (0 : Int32) x7 x7) [(.int x7), (.ref w_CronField_HOUR)])) (fun t k => ?_) ?_
          · show Steps p.tables e below (T197.setTop (mkF m 151 (LS_IIIRRIIIIIu p0 p1 p2 b1 w_CronField_HOUR (0 : Int32) (23 : Int32) x7 (0 : Int32) x7) [(.int x7)])) _
            refine XS.istore X197.here hx rfl (hb hby at_151) rfl (l' := (LS_IIIRRIIIIII p0 p1 p2 b1 w_CronField_HOUR (0 : Int32) (23 : Int32) x7 (0 : Int32) x7 x7)) rfl ?_
            show Steps p.tables e below (T197.setTop (mkF m 153 (LS_IIIRRIIIIII p0 p1 p2 b1 w_CronField_HOUR (0 : Int32) (23 : Int32) x7 (0 : Int32) x7 x7) [])) _
            refine XS.iload X197.here hx rfl (hb hby at_153) rfl ?_
            show Steps p.tables e below (T197.setTop (mkF m 155 (LS_IIIRRIIIIII p0 p1 p2 b1 w_CronField_HOUR (0 : Int32) (23 : Int32) x7 (0 : Int32) x7 x7) [(.int x7)])) _
            refine XS.iload X197.here hx rfl (hb hby at_155) rfl ?_
            show Steps p.tables e below (T197.setTop (mkF m 157 (LS_IIIRRIIIIII p0 p1 p2 b1 w_CronField_HOUR (0 : Int32) (23 : Int32) x7 (0 : Int32) x7 x7) [(.int x7), (.int x7)])) _
            refine XS.icmpNo X197.here hx rfl (hb hby at_157) rfl (teq (rfl : x7 = x7)).2 ?_
            show Steps p.tables e below (T197.setTop (mkF m 160 (LS_IIIRRIIIIII p0 p1 p2 b1 w_CronField_HOUR (0 : Int32) (23 : Int32) x7 (0 : Int32) x7 x7) [])) _
            refine XS.aload X197.here hx rfl (hb hby at_160) rfl rfl ?_
            show Steps p.tables e below (T197.setTop (mkF m 162 (LS_IIIRRIIIIII p0 p1 p2 b1 w_CronField_HOUR (0 : Int32) (23 : Int32) x7 (0 : Int32) x7 x7) [(.ref w_CronField_HOUR)])) _
            refine XS.iload X197.here hx rfl (hb hby at_162) rfl ?_
            exact k
          obtain ⟨cq198, kq198, q198a, q198b, q198c⟩ := isOf hZ e197 E_CronField_HOUR_v179
          obtain ⟨_, _, ⟨T198, L198, k198, n198⟩, -, X198, ⟨Lc198, hQ198, l198, y198, z198⟩, st198⟩ := X197.virtualBack hx (y := (⟨"com/example/murray_hill/murrayhill/cron/CronField", "canonical", "(I)I"⟩ : MethodName)) (z := (⟨"com/example/murray_hill/murrayhill/cron/CronField", "canonical", "(I)I"⟩ : MethodName)) hown (mvT hZ (hw _ (List.mem_of_getElem? (i := 31) rfl))) (mvT hZ (hw _ (List.mem_of_getElem? (i := 32) rfl))) (notFace_of_selects (args := #[]) (mvT hZ (hw _ (List.mem_of_getElem? (i := 34) rfl)))) (mvT hZ (hw _ (List.mem_of_getElem? (i := 34) rfl))) (mvT hZ (hw _ (List.mem_of_getElem? (i := 33) rfl))) (by decide) (backOf (W := 0) (rm3 l Z a0 hw [] w_CronField_HOUR x7 w_CronField_DAY_OF_WEEK h55 n0 Z0_v174 S_CronField_DAY_OF_WEEK_v195) hZ (hw _ (List.mem_of_getElem? (i := 35) rfl)) (hw _ (List.mem_of_getElem? (i := 3) rfl)) (by decide) (by decide)) q198a q198c (g := (mkF m 164 (LS_IIIRRIIIIII p0 p1 p2 b1 w_CronField_HOUR (0 : Int32) (23 : Int32) x7 (0 : Int32) x7 x7) [(.int x7), (.ref w_CronField_HOUR)])) rfl (by rw [hml]; rfl) (Steps.refl _) (argsL := [(.int x7)]) (rest := []) (lenOf pd__I_I rfl) rfl (by show 2 * 0 + _ ≤ _; exact Nat.le_of_eq rfl) (hb hby at_164) (fun _ _ => ⟨rfl, e197, (by decide : 1 + 0 ≤ _), (by decide : 6 + 0 ≤ _)⟩)
          dsimp only [Pt.U, Pt.locs, Pt.cells, Pt.slots] at X198 l198 y198 z198 st198 hQ198
          subst l198 y198 z198
          obtain ⟨rfl, N198q, e198⟩ := hQ198
          have N198 := Fr.app N197 N198q
          refine own_go (B := T198.setTop (mkF m 167 (LS_IIIRRIIIIII p0 p1 p2 b1 w_CronField_HOUR (0 : Int32) (23 : Int32) x7 (0 : Int32) x7 x7) [(.int (if w_CronField_HOUR = w_CronField_DAY_OF_WEEK then (if x7 = (7 : Int32) then (0 : Int32) else x7) else x7))])) (fun t k => st198.trans k) ?_
          rw [show (if w_CronField_HOUR = w_CronField_DAY_OF_WEEK then (if x7 = (7 : Int32) then (0 : Int32) else x7) else x7) = x7 from if_neg (Fld.ne F_CronField_HOUR_ordinal F_CronField_DAY_OF_WEEK_ordinal (by decide))]
          refine own_go (B := T198.setTop (mkF m 177 (LS_IIIRRIIIIII p0 p1 p2 b1 w_CronField_HOUR (0 : Int32) (23 : Int32) x7 (0 : Int32) x7 x7) [(.int (1 : Int32))])) (fun t k => ?_) ?_
          · show Steps p.tables e below (T198.setTop (mkF m 167 (LS_IIIRRIIIIII p0 p1 p2 b1 w_CronField_HOUR (0 : Int32) (23 : Int32) x7 (0 : Int32) x7 x7) [(.int x7)])) _
            refine XS.iload X198.here hx rfl (hb hby at_167) rfl ?_
            show Steps p.tables e below (T198.setTop (mkF m 169 (LS_IIIRRIIIIII p0 p1 p2 b1 w_CronField_HOUR (0 : Int32) (23 : Int32) x7 (0 : Int32) x7 x7) [(.int x7), (.int x7)])) _
            refine XS.icmpNo X198.here hx rfl (hb hby at_169) rfl (teq (rfl : x7 = x7)).2 ?_
            show Steps p.tables e below (T198.setTop (mkF m 172 (LS_IIIRRIIIIII p0 p1 p2 b1 w_CronField_HOUR (0 : Int32) (23 : Int32) x7 (0 : Int32) x7 x7) [])) _
            refine XS.iconst X198.here hx rfl (hb hby at_172) ?_
            show Steps p.tables e below (T198.setTop (mkF m 173 (LS_IIIRRIIIIII p0 p1 p2 b1 w_CronField_HOUR (0 : Int32) (23 : Int32) x7 (0 : Int32) x7 x7) [(.int (1 : Int32))])) _
            refine XS.goto X198.here hx rfl (pc0 := 173) (pc' := 177) rfl (hb hby at_173) (by decide) (by decide) ?_
            exact k
          obtain ⟨fs, hr, hrun, hended, hW, hsame⟩ := X198.leave (v := some (.int (1 : Int32))) (fun h => by rw [Bd.returns] at h; cases h)
          refine ⟨_, _, ?_, hrun, hended, _, _, rfl, ?_, ⟨_, rfl⟩, hW, hsame.mono (by decide) (by decide)⟩
          · show Steps p.tables e below (T198.setTop (mkF m 177 (LS_IIIRRIIIIII p0 p1 p2 b1 w_CronField_HOUR (0 : Int32) (23 : Int32) x7 (0 : Int32) x7 x7) [(.int (1 : Int32))])) _
            exact retN X198 hx (t := .boolean) Bd.returns (by simp) (hb hby at_177) hr
          · show Q0 Z p0 p1 p2 w_CronField_SECOND w_CronField_MINUTE w_CronField_HOUR w_CronField_DAY_OF_MONTH w_CronField_MONTH w_CronField_DAY_OF_WEEK h0 n0 _ T198.heap _
            rw [e198]
            exact ⟨rfl, N198⟩
        · have S_CronField_DAY_OF_WEEK_v199 := S_CronField_DAY_OF_WEEK_v52.wr W55
          refine own_go (B := T188.setTop (mkF m 119 (LS_IIIRRIIIIuu p0 p1 p2 b1 w_CronField_HOUR (0 : Int32) (23 : Int32) x7 (1 : Int32)) [(.ref w_CronField_HOUR)])) (fun t k => ?_) ?_
          · show Steps p.tables e below (T188.setTop (mkF m 107 (LS_IIIRRIIIuuu p0 p1 p2 b1 w_CronField_HOUR (0 : Int32) (23 : Int32) x7) [(.int (23 : Int32)), (.int x7)])) _
            refine XS.icmpNo X188.here hx rfl (hb hby at_107) rfl (flt hc107_194).2.2.1 ?_
            show Steps p.tables e below (T188.setTop (mkF m 110 (LS_IIIRRIIIuuu p0 p1 p2 b1 w_CronField_HOUR (0 : Int32) (23 : Int32) x7) [])) _
            refine XS.iconst X188.here hx rfl (hb hby at_110) ?_
            show Steps p.tables e below (T188.setTop (mkF m 111 (LS_IIIRRIIIuuu p0 p1 p2 b1 w_CronField_HOUR (0 : Int32) (23 : Int32) x7) [(.int (1 : Int32))])) _
            refine XS.goto X188.here hx rfl (pc0 := 111) (pc' := 115) rfl (hb hby at_111) (by decide) (by decide) ?_
            show Steps p.tables e below (T188.setTop (mkF m 115 (LS_IIIRRIIIuuu p0 p1 p2 b1 w_CronField_HOUR (0 : Int32) (23 : Int32) x7) [(.int (1 : Int32))])) _
            refine XS.istore X188.here hx rfl (hb hby at_115) rfl (l' := (LS_IIIRRIIIIuu p0 p1 p2 b1 w_CronField_HOUR (0 : Int32) (23 : Int32) x7 (1 : Int32))) rfl ?_
            show Steps p.tables e below (T188.setTop (mkF m 117 (LS_IIIRRIIIIuu p0 p1 p2 b1 w_CronField_HOUR (0 : Int32) (23 : Int32) x7 (1 : Int32)) [])) _
            refine XS.aload X188.here hx rfl (hb hby at_117) rfl rfl ?_
            exact k
          obtain ⟨T200, X200, e200, st200⟩ := getS2 X188 hx hZ hown (host := "") (Or.inl (hw _ (List.mem_of_getElem? (i := 14) rfl))) Via.refl e188 S_CronField_DAY_OF_WEEK_v199 (g := (mkF m 119 (LS_IIIRRIIIIuu p0 p1 p2 b1 w_CronField_HOUR (0 : Int32) (23 : Int32) x7 (1 : Int32)) [(.ref w_CronField_HOUR)])) rfl (hb hby at_119)
          refine own_go (B := T200.setTop (mkF m 122 (LS_IIIRRIIIIuu p0 p1 p2 b1 w_CronField_HOUR (0 : Int32) (23 : Int32) x7 (1 : Int32)) [(.ref w_CronField_DAY_OF_WEEK), (.ref w_CronField_HOUR)])) (fun t k => st200 _ k) ?_
          refine own_go (B := T200.setTop (mkF m 148 (LS_IIIRRIIIIIu p0 p1 p2 b1 w_CronField_HOUR (0 : Int32) (23 : Int32) x7 (1 : Int32) x7) [(.int x7), (.ref w_CronField_HOUR)])) (fun t k => ?_) ?_
          · show Steps p.tables e below (T200.setTop (mkF m 122 (LS_IIIRRIIIIuu p0 p1 p2 b1 w_CronField_HOUR (0 : Int32) (23 : Int32) x7 (1 : Int32)) [(.ref w_CronField_DAY_OF_WEEK), (.ref w_CronField_HOUR)])) _
            refine Jvm.RoadKit.acmp (g := (mkF m 122 (LS_IIIRRIIIIuu p0 p1 p2 b1 w_CronField_HOUR (0 : Int32) (23 : Int32) x7 (1 : Int32)) [(.ref w_CronField_DAY_OF_WEEK), (.ref w_CronField_HOUR)])) X200 hx rfl rfl rfl (pc0 := 122) (pc' := 140) (same := false) rfl (hb hby at_122) rfl (decide_eq_false fun q => (Fld.ne F_CronField_HOUR_ordinal F_CronField_DAY_OF_WEEK_ordinal (by decide)) (Value.ref.inj q)) (by decide) (by decide) ?_
            show Steps p.tables e below (T200.setTop (mkF m 140 (LS_IIIRRIIIIuu p0 p1 p2 b1 w_CronField_HOUR (0 : Int32) (23 : Int32) x7 (1 : Int32)) [])) _
            refine XS.iload X200.here hx rfl (hb hby at_140) rfl ?_
            show Steps p.tables e below (T200.setTop (mkF m 142 (LS_IIIRRIIIIuu p0 p1 p2 b1 w_CronField_HOUR (0 : Int32) (23 : Int32) x7 (1 : Int32)) [(.int x7)])) _
            refine XS.istore X200.here hx rfl (hb hby at_142) rfl (l' := (LS_IIIRRIIIIIu p0 p1 p2 b1 w_CronField_HOUR (0 : Int32) (23 : Int32) x7 (1 : Int32) x7)) rfl ?_
            show Steps p.tables e below (T200.setTop (mkF m 144 (LS_IIIRRIIIIIu p0 p1 p2 b1 w_CronField_HOUR (0 : Int32) (23 : Int32) x7 (1 : Int32) x7) [])) _
            refine XS.aload X200.here hx rfl (hb hby at_144) rfl rfl ?_
            show Steps p.tables e below (T200.setTop (mkF m 146 (LS_IIIRRIIIIIu p0 p1 p2 b1 w_CronField_HOUR (0 : Int32) (23 : Int32) x7 (1 : Int32) x7) [(.ref w_CronField_HOUR)])) _
            refine XS.iload X200.here hx rfl (hb hby at_146) rfl ?_
            exact k
          obtain ⟨cq201, kq201, q201a, q201b, q201c⟩ := isOf hZ e200 E_CronField_HOUR_v179
          obtain ⟨_, _, ⟨T201, L201, k201, n201⟩, -, X201, ⟨Lc201, hQ201, l201, y201, z201⟩, st201⟩ := X200.virtualBack hx (y := (⟨"com/example/murray_hill/murrayhill/cron/CronField", "canonical", "(I)I"⟩ : MethodName)) (z := (⟨"com/example/murray_hill/murrayhill/cron/CronField", "canonical", "(I)I"⟩ : MethodName)) hown (mvT hZ (hw _ (List.mem_of_getElem? (i := 31) rfl))) (mvT hZ (hw _ (List.mem_of_getElem? (i := 32) rfl))) (notFace_of_selects (args := #[]) (mvT hZ (hw _ (List.mem_of_getElem? (i := 34) rfl)))) (mvT hZ (hw _ (List.mem_of_getElem? (i := 34) rfl))) (mvT hZ (hw _ (List.mem_of_getElem? (i := 33) rfl))) (by decide) (backOf (W := 0) (rm3 l Z a0 hw [] w_CronField_HOUR x7 w_CronField_DAY_OF_WEEK h55 n0 Z0_v174 S_CronField_DAY_OF_WEEK_v199) hZ (hw _ (List.mem_of_getElem? (i := 35) rfl)) (hw _ (List.mem_of_getElem? (i := 3) rfl)) (by decide) (by decide)) q201a q201c (g := (mkF m 148 (LS_IIIRRIIIIIu p0 p1 p2 b1 w_CronField_HOUR (0 : Int32) (23 : Int32) x7 (1 : Int32) x7) [(.int x7), (.ref w_CronField_HOUR)])) rfl (by rw [hml]; rfl) (Steps.refl _) (argsL := [(.int x7)]) (rest := []) (lenOf pd__I_I rfl) rfl (by show 2 * 0 + _ ≤ _; exact Nat.le_of_eq rfl) (hb hby at_148) (fun _ _ => ⟨rfl, e200, (by decide : 1 + 0 ≤ _), (by decide : 6 + 0 ≤ _)⟩)
          dsimp only [Pt.U, Pt.locs, Pt.cells, Pt.slots] at X201 l201 y201 z201 st201 hQ201
          subst l201 y201 z201
          obtain ⟨rfl, N201q, e201⟩ := hQ201
          have N201 := Fr.app N187 N201q
          refine own_go (B := T201.setTop (mkF m 151 (LS_IIIRRIIIIIu p0 p1 p2 b1 w_CronField_HOUR (0 : Int32) (23 : Int32) x7 (1 : Int32) x7) [(.int (if w_CronField_HOUR = w_CronField_DAY_OF_WEEK then (if x7 = (7 : Int32) then (0 : Int32) else x7) else x7))])) (fun t k => st201.trans k) ?_
          rw [show (if w_CronField_HOUR = w_CronField_DAY_OF_WEEK then (if x7 = (7 : Int32) then (0 : Int32) else x7) else x7) = x7 from if_neg (Fld.ne F_CronField_HOUR_ordinal F_CronField_DAY_OF_WEEK_ordinal (by decide))]
          refine own_go (B := T201.setTop (mkF m 164 (LS_IIIRRIIIIII p0 p1 p2 b1 w_CronField_HOUR (0 : Int32) (23 : Int32) x7 (1 : Int32) x7 x7) [(.int x7), (.ref w_CronField_HOUR)])) (fun t k => ?_) ?_
          · show Steps p.tables e below (T201.setTop (mkF m 151 (LS_IIIRRIIIIIu p0 p1 p2 b1 w_CronField_HOUR (0 : Int32) (23 : Int32) x7 (1 : Int32) x7) [(.int x7)])) _
            refine XS.istore X201.here hx rfl (hb hby at_151) rfl (l' := (LS_IIIRRIIIIII p0 p1 p2 b1 w_CronField_HOUR (0 : Int32) (23 : Int32) x7 (1 : Int32) x7 x7)) rfl ?_
            show Steps p.tables e below (T201.setTop (mkF m 153 (LS_IIIRRIIIIII p0 p1 p2 b1 w_CronField_HOUR (0 : Int32) (23 : Int32) x7 (1 : Int32) x7 x7) [])) _
            refine XS.iload X201.here hx rfl (hb hby at_153) rfl ?_
            show Steps p.tables e below (T201.setTop (mkF m 155 (LS_IIIRRIIIIII p0 p1 p2 b1 w_CronField_HOUR (0 : Int32) (23 : Int32) x7 (1 : Int32) x7 x7) [(.int x7)])) _
            refine XS.iload X201.here hx rfl (hb hby at_155) rfl ?_
            show Steps p.tables e below (T201.setTop (mkF m 157 (LS_IIIRRIIIIII p0 p1 p2 b1 w_CronField_HOUR (0 : Int32) (23 : Int32) x7 (1 : Int32) x7 x7) [(.int x7), (.int x7)])) _
            refine XS.icmpNo X201.here hx rfl (hb hby at_157) rfl (teq (rfl : x7 = x7)).2 ?_
            show Steps p.tables e below (T201.setTop (mkF m 160 (LS_IIIRRIIIIII p0 p1 p2 b1 w_CronField_HOUR (0 : Int32) (23 : Int32) x7 (1 : Int32) x7 x7) [])) _
            refine XS.aload X201.here hx rfl (hb hby at_160) rfl rfl ?_
            show Steps p.tables e below (T201.setTop (mkF m 162 (LS_IIIRRIIIIII p0 p1 p2 b1 w_CronField_HOUR (0 : Int32) (23 : Int32) x7 (1 : Int32) x7 x7) [(.ref w_CronField_HOUR)])) _
            refine XS.iload X201.here hx rfl (hb hby at_162) rfl ?_
            exact k
          obtain ⟨cq202, kq202, q202a, q202b, q202c⟩ := isOf hZ e201 E_CronField_HOUR_v179
          obtain ⟨_, _, ⟨T202, L202, k202, n202⟩, -, X202, ⟨Lc202, hQ202, l202, y202, z202⟩, st202⟩ := X201.virtualBack hx (y := (⟨"com/example/murray_hill/murrayhill/cron/CronField", "canonical", "(I)I"⟩ : MethodName)) (z := (⟨"com/example/murray_hill/murrayhill/cron/CronField", "canonical", "(I)I"⟩ : MethodName)) hown (mvT hZ (hw _ (List.mem_of_getElem? (i := 31) rfl))) (mvT hZ (hw _ (List.mem_of_getElem? (i := 32) rfl))) (notFace_of_selects (args := #[]) (mvT hZ (hw _ (List.mem_of_getElem? (i := 34) rfl)))) (mvT hZ (hw _ (List.mem_of_getElem? (i := 34) rfl))) (mvT hZ (hw _ (List.mem_of_getElem? (i := 33) rfl))) (by decide) (backOf (W := 0) (rm3 l Z a0 hw [] w_CronField_HOUR x7 w_CronField_DAY_OF_WEEK h55 n0 Z0_v174 S_CronField_DAY_OF_WEEK_v199) hZ (hw _ (List.mem_of_getElem? (i := 35) rfl)) (hw _ (List.mem_of_getElem? (i := 3) rfl)) (by decide) (by decide)) q202a q202c (g := (mkF m 164 (LS_IIIRRIIIIII p0 p1 p2 b1 w_CronField_HOUR (0 : Int32) (23 : Int32) x7 (1 : Int32) x7 x7) [(.int x7), (.ref w_CronField_HOUR)])) rfl (by rw [hml]; rfl) (Steps.refl _) (argsL := [(.int x7)]) (rest := []) (lenOf pd__I_I rfl) rfl (by show 2 * 0 + _ ≤ _; exact Nat.le_of_eq rfl) (hb hby at_164) (fun _ _ => ⟨rfl, e201, (by decide : 1 + 0 ≤ _), (by decide : 6 + 0 ≤ _)⟩)
          dsimp only [Pt.U, Pt.locs, Pt.cells, Pt.slots] at X202 l202 y202 z202 st202 hQ202
          subst l202 y202 z202
          obtain ⟨rfl, N202q, e202⟩ := hQ202
          have N202 := Fr.app N201 N202q
          refine own_go (B := T202.setTop (mkF m 167 (LS_IIIRRIIIIII p0 p1 p2 b1 w_CronField_HOUR (0 : Int32) (23 : Int32) x7 (1 : Int32) x7 x7) [(.int (if w_CronField_HOUR = w_CronField_DAY_OF_WEEK then (if x7 = (7 : Int32) then (0 : Int32) else x7) else x7))])) (fun t k => st202.trans k) ?_
          rw [show (if w_CronField_HOUR = w_CronField_DAY_OF_WEEK then (if x7 = (7 : Int32) then (0 : Int32) else x7) else x7) = x7 from if_neg (Fld.ne F_CronField_HOUR_ordinal F_CronField_DAY_OF_WEEK_ordinal (by decide))]
          refine own_go (B := T202.setTop (mkF m 177 (LS_IIIRRIIIIII p0 p1 p2 b1 w_CronField_HOUR (0 : Int32) (23 : Int32) x7 (1 : Int32) x7 x7) [(.int (1 : Int32))])) (fun t k => ?_) ?_
          · show Steps p.tables e below (T202.setTop (mkF m 167 (LS_IIIRRIIIIII p0 p1 p2 b1 w_CronField_HOUR (0 : Int32) (23 : Int32) x7 (1 : Int32) x7 x7) [(.int x7)])) _
            refine XS.iload X202.here hx rfl (hb hby at_167) rfl ?_
            show Steps p.tables e below (T202.setTop (mkF m 169 (LS_IIIRRIIIIII p0 p1 p2 b1 w_CronField_HOUR (0 : Int32) (23 : Int32) x7 (1 : Int32) x7 x7) [(.int x7), (.int x7)])) _
            refine XS.icmpNo X202.here hx rfl (hb hby at_169) rfl (teq (rfl : x7 = x7)).2 ?_
            show Steps p.tables e below (T202.setTop (mkF m 172 (LS_IIIRRIIIIII p0 p1 p2 b1 w_CronField_HOUR (0 : Int32) (23 : Int32) x7 (1 : Int32) x7 x7) [])) _
            refine XS.iconst X202.here hx rfl (hb hby at_172) ?_
            show Steps p.tables e below (T202.setTop (mkF m 173 (LS_IIIRRIIIIII p0 p1 p2 b1 w_CronField_HOUR (0 : Int32) (23 : Int32) x7 (1 : Int32) x7 x7) [(.int (1 : Int32))])) _
            refine XS.goto X202.here hx rfl (pc0 := 173) (pc' := 177) rfl (hb hby at_173) (by decide) (by decide) ?_
            exact k
          obtain ⟨fs, hr, hrun, hended, hW, hsame⟩ := X202.leave (v := some (.int (1 : Int32))) (fun h => by rw [Bd.returns] at h; cases h)
          refine ⟨_, _, ?_, hrun, hended, _, _, rfl, ?_, ⟨_, rfl⟩, hW, hsame.mono (by decide) (by decide)⟩
          · show Steps p.tables e below (T202.setTop (mkF m 177 (LS_IIIRRIIIIII p0 p1 p2 b1 w_CronField_HOUR (0 : Int32) (23 : Int32) x7 (1 : Int32) x7 x7) [(.int (1 : Int32))])) _
            exact retN X202 hx (t := .boolean) Bd.returns (by simp) (hb hby at_177) hr
          · show Q0 Z p0 p1 p2 w_CronField_SECOND w_CronField_MINUTE w_CronField_HOUR w_CronField_DAY_OF_MONTH w_CronField_MONTH w_CronField_DAY_OF_WEEK h0 n0 _ T202.heap _
            rw [e202]
            exact ⟨rfl, N202⟩
    · intro rest188
      refine own_go (B := T187.setTop (mkF m 70 (LS_IIIRRIIuuuu p0 p1 p2 b1 w_CronField_HOUR (0 : Int32) (23 : Int32)) [(.int (p2 &&& (1 : Int32)))])) (fun t k => ?_) ?_
      · show Steps p.tables e below (T187.setTop (mkF m 67 (LS_IIIRRIIuuuu p0 p1 p2 b1 w_CronField_HOUR (0 : Int32) (23 : Int32)) [])) _
        refine XS.iloadN X187.here hx rfl (hb hby at_67) rfl ?_
        show Steps p.tables e below (T187.setTop (mkF m 68 (LS_IIIRRIIuuuu p0 p1 p2 b1 w_CronField_HOUR (0 : Int32) (23 : Int32)) [(.int p2)])) _
        refine XS.iconst X187.here hx rfl (hb hby at_68) ?_
        show Steps p.tables e below (T187.setTop (mkF m 69 (LS_IIIRRIIuuuu p0 p1 p2 b1 w_CronField_HOUR (0 : Int32) (23 : Int32)) [(.int (1 : Int32)), (.int p2)])) _
        refine XS.iand X187.here hx rfl (hb hby at_69) rfl ?_
        exact k
      by_cases hc70_203 : (p2 &&& (1 : Int32)) = (0 : Int32)
      · refine own_go (B := T187.setTop (mkF m 96 (LS_IIIRRIIIuuu p0 p1 p2 b1 w_CronField_HOUR (0 : Int32) (23 : Int32) ((0 : Int32) + ((p1 &&& (2147483647 : Int32)) % (((23 : Int32) - (0 : Int32)) + (1 : Int32))))) [])) (fun t k => ?_) ?_
        · show Steps p.tables e below (T187.setTop (mkF m 70 (LS_IIIRRIIuuuu p0 p1 p2 b1 w_CronField_HOUR (0 : Int32) (23 : Int32)) [(.int (p2 &&& (1 : Int32)))])) _
          refine XS.ifYes X187.here hx rfl (pc0 := 70) (pc' := 79) rfl (hb hby at_70) rfl ((if0 _ _).trans (teq hc70_203).1) (by decide) (by decide) ?_
          show Steps p.tables e below (T187.setTop (mkF m 79 (LS_IIIRRIIuuuu p0 p1 p2 b1 w_CronField_HOUR (0 : Int32) (23 : Int32)) [])) _
          refine XS.iload X187.here hx rfl (hb hby at_79) rfl ?_
          show Steps p.tables e below (T187.setTop (mkF m 81 (LS_IIIRRIIuuuu p0 p1 p2 b1 w_CronField_HOUR (0 : Int32) (23 : Int32)) [(.int (0 : Int32))])) _
          refine XS.iloadN X187.here hx rfl (hb hby at_81) rfl ?_
          show Steps p.tables e below (T187.setTop (mkF m 82 (LS_IIIRRIIuuuu p0 p1 p2 b1 w_CronField_HOUR (0 : Int32) (23 : Int32)) [(.int p1), (.int (0 : Int32))])) _
          refine X187.ldcInt hx hown (mvT hZ (hw _ (List.mem_of_getElem? (i := 16) rfl))) (g := (mkF m 82 (LS_IIIRRIIuuuu p0 p1 p2 b1 w_CronField_HOUR (0 : Int32) (23 : Int32)) [(.int p1), (.int (0 : Int32))])) rfl (hb hby at_82) _ ?_
          show Steps p.tables e below (T187.setTop (mkF m 84 (LS_IIIRRIIuuuu p0 p1 p2 b1 w_CronField_HOUR (0 : Int32) (23 : Int32)) [(.int (2147483647 : Int32)), (.int p1), (.int (0 : Int32))])) _
          refine XS.iand X187.here hx rfl (hb hby at_84) rfl ?_
          show Steps p.tables e below (T187.setTop (mkF m 85 (LS_IIIRRIIuuuu p0 p1 p2 b1 w_CronField_HOUR (0 : Int32) (23 : Int32)) [(.int (p1 &&& (2147483647 : Int32))), (.int (0 : Int32))])) _
          refine XS.iload X187.here hx rfl (hb hby at_85) rfl ?_
          show Steps p.tables e below (T187.setTop (mkF m 87 (LS_IIIRRIIuuuu p0 p1 p2 b1 w_CronField_HOUR (0 : Int32) (23 : Int32)) [(.int (23 : Int32)), (.int (p1 &&& (2147483647 : Int32))), (.int (0 : Int32))])) _
          refine XS.iload X187.here hx rfl (hb hby at_87) rfl ?_
          show Steps p.tables e below (T187.setTop (mkF m 89 (LS_IIIRRIIuuuu p0 p1 p2 b1 w_CronField_HOUR (0 : Int32) (23 : Int32)) [(.int (0 : Int32)), (.int (23 : Int32)), (.int (p1 &&& (2147483647 : Int32))), (.int (0 : Int32))])) _
          refine XS.isub X187.here hx rfl (hb hby at_89) rfl ?_
          show Steps p.tables e below (T187.setTop (mkF m 90 (LS_IIIRRIIuuuu p0 p1 p2 b1 w_CronField_HOUR (0 : Int32) (23 : Int32)) [(.int ((23 : Int32) - (0 : Int32))), (.int (p1 &&& (2147483647 : Int32))), (.int (0 : Int32))])) _
          refine XS.iconst X187.here hx rfl (hb hby at_90) ?_
          show Steps p.tables e below (T187.setTop (mkF m 91 (LS_IIIRRIIuuuu p0 p1 p2 b1 w_CronField_HOUR (0 : Int32) (23 : Int32)) [(.int (1 : Int32)), (.int ((23 : Int32) - (0 : Int32))), (.int (p1 &&& (2147483647 : Int32))), (.int (0 : Int32))])) _
          refine XS.iadd X187.here hx rfl (hb hby at_91) rfl ?_
          show Steps p.tables e below (T187.setTop (mkF m 92 (LS_IIIRRIIuuuu p0 p1 p2 b1 w_CronField_HOUR (0 : Int32) (23 : Int32)) [(.int (((23 : Int32) - (0 : Int32)) + (1 : Int32))), (.int (p1 &&& (2147483647 : Int32))), (.int (0 : Int32))])) _
          refine Jvm.RoadKit.iremM X187 hx rfl (hb hby at_92) rfl (by decide) ?_
          show Steps p.tables e below (T187.setTop (mkF m 93 (LS_IIIRRIIuuuu p0 p1 p2 b1 w_CronField_HOUR (0 : Int32) (23 : Int32)) [(.int ((p1 &&& (2147483647 : Int32)) % (((23 : Int32) - (0 : Int32)) + (1 : Int32)))), (.int (0 : Int32))])) _
          refine XS.iadd X187.here hx rfl (hb hby at_93) rfl ?_
          show Steps p.tables e below (T187.setTop (mkF m 94 (LS_IIIRRIIuuuu p0 p1 p2 b1 w_CronField_HOUR (0 : Int32) (23 : Int32)) [(.int ((0 : Int32) + ((p1 &&& (2147483647 : Int32)) % (((23 : Int32) - (0 : Int32)) + (1 : Int32)))))])) _
          refine XS.istore X187.here hx rfl (hb hby at_94) rfl (l' := (LS_IIIRRIIIuuu p0 p1 p2 b1 w_CronField_HOUR (0 : Int32) (23 : Int32) ((0 : Int32) + ((p1 &&& (2147483647 : Int32)) % (((23 : Int32) - (0 : Int32)) + (1 : Int32)))))) rfl ?_
          exact k
        exact rest188 ((0 : Int32) + ((p1 &&& (2147483647 : Int32)) % (((23 : Int32) - (0 : Int32)) + (1 : Int32)))) _ X187 e187
      · refine own_go (B := T187.setTop (mkF m 96 (LS_IIIRRIIIuuu p0 p1 p2 b1 w_CronField_HOUR (0 : Int32) (23 : Int32) p1) [])) (fun t k => ?_) ?_
        · show Steps p.tables e below (T187.setTop (mkF m 70 (LS_IIIRRIIuuuu p0 p1 p2 b1 w_CronField_HOUR (0 : Int32) (23 : Int32)) [(.int (p2 &&& (1 : Int32)))])) _
          refine XS.ifNo X187.here hx rfl (hb hby at_70) rfl ((if0 _ _).trans (feq hc70_203).1) ?_
          show Steps p.tables e below (T187.setTop (mkF m 73 (LS_IIIRRIIuuuu p0 p1 p2 b1 w_CronField_HOUR (0 : Int32) (23 : Int32)) [])) _
          refine XS.iloadN X187.here hx rfl (hb hby at_73) rfl ?_
          show Steps p.tables e below (T187.setTop (mkF m 74 (LS_IIIRRIIuuuu p0 p1 p2 b1 w_CronField_HOUR (0 : Int32) (23 : Int32)) [(.int p1)])) _
          refine XS.istore X187.here hx rfl (hb hby at_74) rfl (l' := (LS_IIIRRIIIuuu p0 p1 p2 b1 w_CronField_HOUR (0 : Int32) (23 : Int32) p1)) rfl ?_
          show Steps p.tables e below (T187.setTop (mkF m 76 (LS_IIIRRIIIuuu p0 p1 p2 b1 w_CronField_HOUR (0 : Int32) (23 : Int32) p1) [])) _
          refine XS.goto X187.here hx rfl (pc0 := 76) (pc' := 96) rfl (hb hby at_76) (by decide) (by decide) ?_
          exact k
        exact rest188 p1 _ X187 e187
  · rw [hk62]
    obtain ⟨cl204, Ar204, qa204, Sa204, Na204, Ha204, Ga204⟩ := V55
    have hin205 : ¬ ((3 : Int32) < 0 ∨ cl204.slots.size ≤ ((3 : Int32)).toNatClampNeg) := inb_of Sa204 ⟨by decide, by decide⟩
    have hat205 : cl204.slots[((3 : Int32)).toNatClampNeg]? = some (.ref w_CronField_DAY_OF_MONTH) := Has.at Ha204 hin205 rfl
    refine own_go (B := T55.setTop (mkF m 55 (LS_IIIRRuuuuuu p0 p1 p2 b1 w_CronField_DAY_OF_MONTH) [(.ref w_CronField_DAY_OF_MONTH)])) (fun t k => ?_) ?_
    · show Steps p.tables e below (T55.setTop (mkF m 50 (LS_IIIRuuuuuuu p0 p1 p2 b1) [(.int (3 : Int32)), (.ref b1)])) _
      refine X55.aaload hx (j := (3 : Int32)) (v := (.ref w_CronField_DAY_OF_MONTH)) (by rw [e55]; exact Ar204.1) (State.isArrayOf_alike hZ.alike Ar204.2.1) rfl Ar204.2.2 hin205 hat205 (g := (mkF m 50 (LS_IIIRuuuuuuu p0 p1 p2 b1) [(.int (3 : Int32)), (.ref b1)])) rfl rfl (hb hby at_50) _ ?_
      show Steps p.tables e below (T55.setTop (mkF m 51 (LS_IIIRuuuuuuu p0 p1 p2 b1) [(.ref w_CronField_DAY_OF_MONTH)])) _
      refine XS.astore X55.here hx rfl (hb hby at_51) rfl rfl (l' := (LS_IIIRRuuuuuu p0 p1 p2 b1 w_CronField_DAY_OF_MONTH)) rfl ?_
      show Steps p.tables e below (T55.setTop (mkF m 53 (LS_IIIRRuuuuuu p0 p1 p2 b1 w_CronField_DAY_OF_MONTH) [])) _
      refine XS.aload X55.here hx rfl (hb hby at_53) rfl rfl ?_
      exact k
    have F_CronField_DAY_OF_MONTH_min_v206 := F_CronField_DAY_OF_MONTH_min.ext E1
    have ne208 : w_CronField_DAY_OF_MONTH ≠ b1 := Nat.ne_of_lt (Nat.lt_of_lt_of_le F_CronField_DAY_OF_MONTH_min.lt (Nat.le_of_eq g1.symm))
    have F_CronField_DAY_OF_MONTH_min_v207 := F_CronField_DAY_OF_MONTH_min_v206.other W5 (Or.inl ne208)
    have F_CronField_DAY_OF_MONTH_min_v209 := F_CronField_DAY_OF_MONTH_min_v207.other W11 (Or.inl ne208)
    have F_CronField_DAY_OF_MONTH_min_v210 := F_CronField_DAY_OF_MONTH_min_v209.other W19 (Or.inl ne208)
    have F_CronField_DAY_OF_MONTH_min_v211 := F_CronField_DAY_OF_MONTH_min_v210.other W29 (Or.inl ne208)
    have F_CronField_DAY_OF_MONTH_min_v212 := F_CronField_DAY_OF_MONTH_min_v211.other W41 (Or.inl ne208)
    have F_CronField_DAY_OF_MONTH_min_v213 := F_CronField_DAY_OF_MONTH_min_v212.other W55 (Or.inl ne208)
    have Z0_v214 := Nat.le_trans Z0 E1.1
    have Z0_v215 := Nat.le_trans Z0_v214 (Nat.le_of_eq W5.size.symm)
    have Z0_v216 := Nat.le_trans Z0_v215 (Nat.le_of_eq W11.size.symm)
    have Z0_v217 := Nat.le_trans Z0_v216 (Nat.le_of_eq W19.size.symm)
    have Z0_v218 := Nat.le_trans Z0_v217 (Nat.le_of_eq W29.size.symm)
    have Z0_v219 := Nat.le_trans Z0_v218 (Nat.le_of_eq W41.size.symm)
    have Z0_v220 := Nat.le_trans Z0_v219 (Nat.le_of_eq W55.size.symm)
    have E_CronField_DAY_OF_MONTH_v222 := E_CronField_DAY_OF_MONTH_v33.wr W29
    have E_CronField_DAY_OF_MONTH_v223 := E_CronField_DAY_OF_MONTH_v222.wr W41
    have E_CronField_DAY_OF_MONTH_v224 := E_CronField_DAY_OF_MONTH_v223.wr W55
    obtain ⟨cq221, kq221, q221a, q221b, q221c⟩ := isOf hZ e55 E_CronField_DAY_OF_MONTH_v224
    obtain ⟨_, _, ⟨T221, L221, k221, n221⟩, -, X221, ⟨Lc221, hQ221, l221, y221, z221⟩, st221⟩ := X55.virtualBack hx (y := (⟨"com/example/murray_hill/murrayhill/cron/CronField", "min", "()I"⟩ : MethodName)) (z := (⟨"com/example/murray_hill/murrayhill/cron/CronField", "min", "()I"⟩ : MethodName)) hown (mvT hZ (hw _ (List.mem_of_getElem? (i := 17) rfl))) (mvT hZ (hw _ (List.mem_of_getElem? (i := 18) rfl))) (notFace_of_selects (args := #[]) (mvT hZ (hw _ (List.mem_of_getElem? (i := 20) rfl)))) (mvT hZ (hw _ (List.mem_of_getElem? (i := 20) rfl))) (mvT hZ (hw _ (List.mem_of_getElem? (i := 19) rfl))) (by decide) (backOf (W := 0) (rm1 l Z a0 hw [] w_CronField_DAY_OF_MONTH (1 : Int32) h55 n0 Z0_v220 F_CronField_DAY_OF_MONTH_min_v213) hZ (hw _ (List.mem_of_getElem? (i := 21) rfl)) (hw _ (List.mem_of_getElem? (i := 3) rfl)) (by decide) (by decide)) q221a q221c (g := (mkF m 55 (LS_IIIRRuuuuuu p0 p1 p2 b1 w_CronField_DAY_OF_MONTH) [(.ref w_CronField_DAY_OF_MONTH)])) rfl (by rw [hml]; rfl) (Steps.refl _) (argsL := []) (rest := []) (lenOf pd___I rfl) rfl (by show 2 * 0 + _ ≤ _; exact Nat.le_of_eq rfl) (hb hby at_55) (fun _ _ => ⟨rfl, e55, (by decide : 1 + 0 ≤ _), (by decide : 6 + 0 ≤ _)⟩)
    dsimp only [Pt.U, Pt.locs, Pt.cells, Pt.slots] at X221 l221 y221 z221 st221 hQ221
    subst l221 y221 z221
    obtain ⟨rfl, N221q, e221⟩ := hQ221
    have N221 := Fr.app N55 N221q
    refine own_go (B := T221.setTop (mkF m 58 (LS_IIIRRuuuuuu p0 p1 p2 b1 w_CronField_DAY_OF_MONTH) [(.int (1 : Int32))])) (fun t k => st221.trans k) ?_
    refine own_go (B := T221.setTop (mkF m 62 (LS_IIIRRIuuuuu p0 p1 p2 b1 w_CronField_DAY_OF_MONTH (1 : Int32)) [(.ref w_CronField_DAY_OF_MONTH)])) (fun t k => ?_) ?_
    · show Steps p.tables e below (T221.setTop (mkF m 58 (LS_IIIRRuuuuuu p0 p1 p2 b1 w_CronField_DAY_OF_MONTH) [(.int (1 : Int32))])) _
      refine XS.istore X221.here hx rfl (hb hby at_58) rfl (l' := (LS_IIIRRIuuuuu p0 p1 p2 b1 w_CronField_DAY_OF_MONTH (1 : Int32))) rfl ?_
      show Steps p.tables e below (T221.setTop (mkF m 60 (LS_IIIRRIuuuuu p0 p1 p2 b1 w_CronField_DAY_OF_MONTH (1 : Int32)) [])) _
      refine XS.aload X221.here hx rfl (hb hby at_60) rfl rfl ?_
      exact k
    have F_CronField_DAY_OF_MONTH_max_v225 := F_CronField_DAY_OF_MONTH_max.ext E1
    have F_CronField_DAY_OF_MONTH_max_v226 := F_CronField_DAY_OF_MONTH_max_v225.other W5 (Or.inl ne208)
    have F_CronField_DAY_OF_MONTH_max_v227 := F_CronField_DAY_OF_MONTH_max_v226.other W11 (Or.inl ne208)
    have F_CronField_DAY_OF_MONTH_max_v228 := F_CronField_DAY_OF_MONTH_max_v227.other W19 (Or.inl ne208)
    have F_CronField_DAY_OF_MONTH_max_v229 := F_CronField_DAY_OF_MONTH_max_v228.other W29 (Or.inl ne208)
    have F_CronField_DAY_OF_MONTH_max_v230 := F_CronField_DAY_OF_MONTH_max_v229.other W41 (Or.inl ne208)
    have F_CronField_DAY_OF_MONTH_max_v231 := F_CronField_DAY_OF_MONTH_max_v230.other W55 (Or.inl ne208)
    obtain ⟨cq232, kq232, q232a, q232b, q232c⟩ := isOf hZ e221 E_CronField_DAY_OF_MONTH_v224
    obtain ⟨_, _, ⟨T232, L232, k232, n232⟩, -, X232, ⟨Lc232, hQ232, l232, y232, z232⟩, st232⟩ := X221.virtualBack hx (y := (⟨"com/example/murray_hill/murrayhill/cron/CronField", "max", "()I"⟩ : MethodName)) (z := (⟨"com/example/murray_hill/murrayhill/cron/CronField", "max", "()I"⟩ : MethodName)) hown (mvT hZ (hw _ (List.mem_of_getElem? (i := 24) rfl))) (mvT hZ (hw _ (List.mem_of_getElem? (i := 25) rfl))) (notFace_of_selects (args := #[]) (mvT hZ (hw _ (List.mem_of_getElem? (i := 27) rfl)))) (mvT hZ (hw _ (List.mem_of_getElem? (i := 27) rfl))) (mvT hZ (hw _ (List.mem_of_getElem? (i := 26) rfl))) (by decide) (backOf (W := 0) (rm2 l Z a0 hw [] w_CronField_DAY_OF_MONTH (31 : Int32) h55 n0 Z0_v220 F_CronField_DAY_OF_MONTH_max_v231) hZ (hw _ (List.mem_of_getElem? (i := 28) rfl)) (hw _ (List.mem_of_getElem? (i := 3) rfl)) (by decide) (by decide)) q232a q232c (g := (mkF m 62 (LS_IIIRRIuuuuu p0 p1 p2 b1 w_CronField_DAY_OF_MONTH (1 : Int32)) [(.ref w_CronField_DAY_OF_MONTH)])) rfl (by rw [hml]; rfl) (Steps.refl _) (argsL := []) (rest := []) (lenOf pd___I rfl) rfl (by show 2 * 0 + _ ≤ _; exact Nat.le_of_eq rfl) (hb hby at_62) (fun _ _ => ⟨rfl, e221, (by decide : 1 + 0 ≤ _), (by decide : 6 + 0 ≤ _)⟩)
    dsimp only [Pt.U, Pt.locs, Pt.cells, Pt.slots] at X232 l232 y232 z232 st232 hQ232
    subst l232 y232 z232
    obtain ⟨rfl, N232q, e232⟩ := hQ232
    have N232 := Fr.app N221 N232q
    refine own_go (B := T232.setTop (mkF m 65 (LS_IIIRRIuuuuu p0 p1 p2 b1 w_CronField_DAY_OF_MONTH (1 : Int32)) [(.int (31 : Int32))])) (fun t k => st232.trans k) ?_
    refine own_go (B := T232.setTop (mkF m 67 (LS_IIIRRIIuuuu p0 p1 p2 b1 w_CronField_DAY_OF_MONTH (1 : Int32) (31 : Int32)) [])) (fun t k => ?_) ?_
    · show Steps p.tables e below (T232.setTop (mkF m 65 (LS_IIIRRIuuuuu p0 p1 p2 b1 w_CronField_DAY_OF_MONTH (1 : Int32)) [(.int (31 : Int32))])) _
      refine XS.istore X232.here hx rfl (hb hby at_65) rfl (l' := (LS_IIIRRIIuuuu p0 p1 p2 b1 w_CronField_DAY_OF_MONTH (1 : Int32) (31 : Int32))) rfl ?_
      exact k
    refine own_join X232 (ι := Int32) (fun i233 T' => T'.heap = h55) (fun i233 => mkF m 96 (LS_IIIRRIIIuuu p0 p1 p2 b1 w_CronField_DAY_OF_MONTH (1 : Int32) (31 : Int32) i233) []) ?_ ?_
    · intro x7 T233 X233 hi233
      have e233 := hi233
      refine own_go (B := T233.setTop (mkF m 100 (LS_IIIRRIIIuuu p0 p1 p2 b1 w_CronField_DAY_OF_MONTH (1 : Int32) (31 : Int32) x7) [(.int x7), (.int (1 : Int32))])) (fun t k => ?_) ?_
      · show Steps p.tables e below (T233.setTop (mkF m 96 (LS_IIIRRIIIuuu p0 p1 p2 b1 w_CronField_DAY_OF_MONTH (1 : Int32) (31 : Int32) x7) [])) _
        refine XS.iload X233.here hx rfl (hb hby at_96) rfl ?_
        show Steps p.tables e below (T233.setTop (mkF m 98 (LS_IIIRRIIIuuu p0 p1 p2 b1 w_CronField_DAY_OF_MONTH (1 : Int32) (31 : Int32) x7) [(.int (1 : Int32))])) _
        refine XS.iload X233.here hx rfl (hb hby at_98) rfl ?_
        exact k
      by_cases hc100_234 : x7 < (1 : Int32)
      · have S_CronField_DAY_OF_WEEK_v235 := S_CronField_DAY_OF_WEEK_v52.wr W55
        refine own_go (B := T233.setTop (mkF m 119 (LS_IIIRRIIIIuu p0 p1 p2 b1 w_CronField_DAY_OF_MONTH (1 : Int32) (31 : Int32) x7 (0 : Int32)) [(.ref w_CronField_DAY_OF_MONTH)])) (fun t k => ?_) ?_
        · show Steps p.tables e below (T233.setTop (mkF m 100 (LS_IIIRRIIIuuu p0 p1 p2 b1 w_CronField_DAY_OF_MONTH (1 : Int32) (31 : Int32) x7) [(.int x7), (.int (1 : Int32))])) _
          refine XS.icmpYes X233.here hx rfl (pc0 := 100) (pc' := 114) rfl (hb hby at_100) rfl (tlt hc100_234).2.2.1 (by decide) (by decide) ?_
          show Steps p.tables e below (T233.setTop (mkF m 114 (LS_IIIRRIIIuuu p0 p1 p2 b1 w_CronField_DAY_OF_MONTH (1 : Int32) (31 : Int32) x7) [])) _
          refine XS.iconst X233.here hx rfl (hb hby at_114) ?_
          show Steps p.tables e below (T233.setTop (mkF m 115 (LS_IIIRRIIIuuu p0 p1 p2 b1 w_CronField_DAY_OF_MONTH (1 : Int32) (31 : Int32) x7) [(.int (0 : Int32))])) _
          refine XS.istore X233.here hx rfl (hb hby at_115) rfl (l' := (LS_IIIRRIIIIuu p0 p1 p2 b1 w_CronField_DAY_OF_MONTH (1 : Int32) (31 : Int32) x7 (0 : Int32))) rfl ?_
          show Steps p.tables e below (T233.setTop (mkF m 117 (LS_IIIRRIIIIuu p0 p1 p2 b1 w_CronField_DAY_OF_MONTH (1 : Int32) (31 : Int32) x7 (0 : Int32)) [])) _
          refine XS.aload X233.here hx rfl (hb hby at_117) rfl rfl ?_
          exact k
        obtain ⟨T236, X236, e236, st236⟩ := getS2 X233 hx hZ hown (host := "") (Or.inl (hw _ (List.mem_of_getElem? (i := 14) rfl))) Via.refl e233 S_CronField_DAY_OF_WEEK_v235 (g := (mkF m 119 (LS_IIIRRIIIIuu p0 p1 p2 b1 w_CronField_DAY_OF_MONTH (1 : Int32) (31 : Int32) x7 (0 : Int32)) [(.ref w_CronField_DAY_OF_MONTH)])) rfl (hb hby at_119)
        refine own_go (B := T236.setTop (mkF m 122 (LS_IIIRRIIIIuu p0 p1 p2 b1 w_CronField_DAY_OF_MONTH (1 : Int32) (31 : Int32) x7 (0 : Int32)) [(.ref w_CronField_DAY_OF_WEEK), (.ref w_CronField_DAY_OF_MONTH)])) (fun t k => st236 _ k) ?_
        refine own_go (B := T236.setTop (mkF m 148 (LS_IIIRRIIIIIu p0 p1 p2 b1 w_CronField_DAY_OF_MONTH (1 : Int32) (31 : Int32) x7 (0 : Int32) x7) [(.int x7), (.ref w_CronField_DAY_OF_MONTH)])) (fun t k => ?_) ?_
        · show Steps p.tables e below (T236.setTop (mkF m 122 (LS_IIIRRIIIIuu p0 p1 p2 b1 w_CronField_DAY_OF_MONTH (1 : Int32) (31 : Int32) x7 (0 : Int32)) [(.ref w_CronField_DAY_OF_WEEK), (.ref w_CronField_DAY_OF_MONTH)])) _
          refine Jvm.RoadKit.acmp (g := (mkF m 122 (LS_IIIRRIIIIuu p0 p1 p2 b1 w_CronField_DAY_OF_MONTH (1 : Int32) (31 : Int32) x7 (0 : Int32)) [(.ref w_CronField_DAY_OF_WEEK), (.ref w_CronField_DAY_OF_MONTH)])) X236 hx rfl rfl rfl (pc0 := 122) (pc' := 140) (same := false) rfl (hb hby at_122) rfl (decide_eq_false fun q => (Fld.ne F_CronField_DAY_OF_MONTH_ordinal F_CronField_DAY_OF_WEEK_ordinal (by decide)) (Value.ref.inj q)) (by decide) (by decide) ?_
          show Steps p.tables e below (T236.setTop (mkF m 140 (LS_IIIRRIIIIuu p0 p1 p2 b1 w_CronField_DAY_OF_MONTH (1 : Int32) (31 : Int32) x7 (0 : Int32)) [])) _
          refine XS.iload X236.here hx rfl (hb hby at_140) rfl ?_
          show Steps p.tables e below (T236.setTop (mkF m 142 (LS_IIIRRIIIIuu p0 p1 p2 b1 w_CronField_DAY_OF_MONTH (1 : Int32) (31 : Int32) x7 (0 : Int32)) [(.int x7)])) _
          refine XS.istore X236.here hx rfl (hb hby at_142) rfl (l' := (LS_IIIRRIIIIIu p0 p1 p2 b1 w_CronField_DAY_OF_MONTH (1 : Int32) (31 : Int32) x7 (0 : Int32) x7)) rfl ?_
          show Steps p.tables e below (T236.setTop (mkF m 144 (LS_IIIRRIIIIIu p0 p1 p2 b1 w_CronField_DAY_OF_MONTH (1 : Int32) (31 : Int32) x7 (0 : Int32) x7) [])) _
          refine XS.aload X236.here hx rfl (hb hby at_144) rfl rfl ?_
          show Steps p.tables e below (T236.setTop (mkF m 146 (LS_IIIRRIIIIIu p0 p1 p2 b1 w_CronField_DAY_OF_MONTH (1 : Int32) (31 : Int32) x7 (0 : Int32) x7) [(.ref w_CronField_DAY_OF_MONTH)])) _
          refine XS.iload X236.here hx rfl (hb hby at_146) rfl ?_
          exact k
        obtain ⟨cq237, kq237, q237a, q237b, q237c⟩ := isOf hZ e236 E_CronField_DAY_OF_MONTH_v224
        obtain ⟨_, _, ⟨T237, L237, k237, n237⟩, -, X237, ⟨Lc237, hQ237, l237, y237, z237⟩, st237⟩ := X236.virtualBack hx (y := (⟨"com/example/murray_hill/murrayhill/cron/CronField", "canonical", "(I)I"⟩ : MethodName)) (z := (⟨"com/example/murray_hill/murrayhill/cron/CronField", "canonical", "(I)I"⟩ : MethodName)) hown (mvT hZ (hw _ (List.mem_of_getElem? (i := 31) rfl))) (mvT hZ (hw _ (List.mem_of_getElem? (i := 32) rfl))) (notFace_of_selects (args := #[]) (mvT hZ (hw _ (List.mem_of_getElem? (i := 34) rfl)))) (mvT hZ (hw _ (List.mem_of_getElem? (i := 34) rfl))) (mvT hZ (hw _ (List.mem_of_getElem? (i := 33) rfl))) (by decide) (backOf (W := 0) (rm3 l Z a0 hw [] w_CronField_DAY_OF_MONTH x7 w_CronField_DAY_OF_WEEK h55 n0 Z0_v220 S_CronField_DAY_OF_WEEK_v235) hZ (hw _ (List.mem_of_getElem? (i := 35) rfl)) (hw _ (List.mem_of_getElem? (i := 3) rfl)) (by decide) (by decide)) q237a q237c (g := (mkF m 148 (LS_IIIRRIIIIIu p0 p1 p2 b1 w_CronField_DAY_OF_MONTH (1 : Int32) (31 : Int32) x7 (0 : Int32) x7) [(.int x7), (.ref w_CronField_DAY_OF_MONTH)])) rfl (by rw [hml]; rfl) (Steps.refl _) (argsL := [(.int x7)]) (rest := []) (lenOf pd__I_I rfl) rfl (by show 2 * 0 + _ ≤ _; exact Nat.le_of_eq rfl) (hb hby at_148) (fun _ _ => ⟨rfl, e236, (by decide : 1 + 0 ≤ _), (by decide : 6 + 0 ≤ _)⟩)
        dsimp only [Pt.U, Pt.locs, Pt.cells, Pt.slots] at X237 l237 y237 z237 st237 hQ237
        subst l237 y237 z237
        obtain ⟨rfl, N237q, e237⟩ := hQ237
        have N237 := Fr.app N232 N237q
        refine own_go (B := T237.setTop (mkF m 151 (LS_IIIRRIIIIIu p0 p1 p2 b1 w_CronField_DAY_OF_MONTH (1 : Int32) (31 : Int32) x7 (0 : Int32) x7) [(.int (if w_CronField_DAY_OF_MONTH = w_CronField_DAY_OF_WEEK then (if x7 = (7 : Int32) then (0 : Int32) else x7) else x7))])) (fun t k => st237.trans k) ?_
        rw [show (if w_CronField_DAY_OF_MONTH = w_CronField_DAY_OF_WEEK then (if x7 = (7 : Int32) then (0 : Int32) else x7) else x7) = x7 from if_neg (Fld.ne F_CronField_DAY_OF_MONTH_ordinal F_CronField_DAY_OF_WEEK_ordinal (by decide))]
        refine own_go (B := T237.setTop (mkF m 164 (LS_IIIRRIIIIII p0 p1 p2 b1 w_CronField_DAY_OF_MONTH (1 : Int32) (31 : Int32) x7 (0 : Int32) x7 x7) [(.int x7), (.ref w_CronField_DAY_OF_MONTH)])) (fun t k => ?_) ?_
        · show Steps p.tables e below (T237.setTop (mkF m 151 (LS_IIIRRIIIIIu p0 p1 p2 b1 w_CronField_DAY_OF_MONTH (1 : Int32) (31 : Int32) x7 (0 : Int32) x7) [(.int x7)])) _
          refine XS.istore X237.here hx rfl (hb hby at_151) rfl (l' := (LS_IIIRRIIIIII p0 p1 p2 b1 w_CronField_DAY_OF_MONTH (1 : Int32) (31 : Int32) x7 (0 : Int32) x7 x7)) rfl ?_
          show Steps p.tables e below (T237.setTop (mkF m 153 (LS_IIIRRIIIIII p0 p1 p2 b1 w_CronField_DAY_OF_MONTH (1 : Int32) (31 : Int32) x7 (0 : Int32) x7 x7) [])) _
          refine XS.iload X237.here hx rfl (hb hby at_153) rfl ?_
          show Steps p.tables e below (T237.setTop (mkF m 155 (LS_IIIRRIIIIII p0 p1 p2 b1 w_CronField_DAY_OF_MONTH (1 : Int32) (31 : Int32) x7 (0 : Int32) x7 x7) [(.int x7)])) _
          refine XS.iload X237.here hx rfl (hb hby at_155) rfl ?_
          show Steps p.tables e below (T237.setTop (mkF m 157 (LS_IIIRRIIIIII p0 p1 p2 b1 w_CronField_DAY_OF_MONTH (1 : Int32) (31 : Int32) x7 (0 : Int32) x7 x7) [(.int x7), (.int x7)])) _
          refine XS.icmpNo X237.here hx rfl (hb hby at_157) rfl (teq (rfl : x7 = x7)).2 ?_
          show Steps p.tables e below (T237.setTop (mkF m 160 (LS_IIIRRIIIIII p0 p1 p2 b1 w_CronField_DAY_OF_MONTH (1 : Int32) (31 : Int32) x7 (0 : Int32) x7 x7) [])) _
          refine XS.aload X237.here hx rfl (hb hby at_160) rfl rfl ?_
          show Steps p.tables e below (T237.setTop (mkF m 162 (LS_IIIRRIIIIII p0 p1 p2 b1 w_CronField_DAY_OF_MONTH (1 : Int32) (31 : Int32) x7 (0 : Int32) x7 x7) [(.ref w_CronField_DAY_OF_MONTH)])) _
          refine XS.iload X237.here hx rfl (hb hby at_162) rfl ?_
          exact k
        obtain ⟨cq238, kq238, q238a, q238b, q238c⟩ := isOf hZ e237 E_CronField_DAY_OF_MONTH_v224
        obtain ⟨_, _, ⟨T238, L238, k238, n238⟩, -, X238, ⟨Lc238, hQ238, l238, y238, z238⟩, st238⟩ := X237.virtualBack hx (y := (⟨"com/example/murray_hill/murrayhill/cron/CronField", "canonical", "(I)I"⟩ : MethodName)) (z := (⟨"com/example/murray_hill/murrayhill/cron/CronField", "canonical", "(I)I"⟩ : MethodName)) hown (mvT hZ (hw _ (List.mem_of_getElem? (i := 31) rfl))) (mvT hZ (hw _ (List.mem_of_getElem? (i := 32) rfl))) (notFace_of_selects (args := #[]) (mvT hZ (hw _ (List.mem_of_getElem? (i := 34) rfl)))) (mvT hZ (hw _ (List.mem_of_getElem? (i := 34) rfl))) (mvT hZ (hw _ (List.mem_of_getElem? (i := 33) rfl))) (by decide) (backOf (W := 0) (rm3 l Z a0 hw [] w_CronField_DAY_OF_MONTH x7 w_CronField_DAY_OF_WEEK h55 n0 Z0_v220 S_CronField_DAY_OF_WEEK_v235) hZ (hw _ (List.mem_of_getElem? (i := 35) rfl)) (hw _ (List.mem_of_getElem? (i := 3) rfl)) (by decide) (by decide)) q238a q238c (g := (mkF m 164 (LS_IIIRRIIIIII p0 p1 p2 b1 w_CronField_DAY_OF_MONTH (1 : Int32) (31 : Int32) x7 (0 : Int32) x7 x7) [(.int x7), (.ref w_CronField_DAY_OF_MONTH)])) rfl (by rw [hml]; rfl) (Steps.refl _) (argsL := [(.int x7)]) (rest := []) (lenOf pd__I_I rfl) rfl (by show 2 * 0 + _ ≤ _; exact Nat.le_of_eq rfl) (hb hby at_164) (fun _ _ => ⟨rfl, e237, (by decide : 1 + 0 ≤ _), (by decide : 6 + 0 ≤ _)⟩)
        dsimp only [Pt.U, Pt.locs, Pt.cells, Pt.slots] at X238 l238 y238 z238 st238 hQ238
        subst l238 y238 z238
        obtain ⟨rfl, N238q, e238⟩ := hQ238
        have N238 := Fr.app N237 N238q
        refine own_go (B := T238.setTop (mkF m 167 (LS_IIIRRIIIIII p0 p1 p2 b1 w_CronField_DAY_OF_MONTH (1 : Int32) (31 : Int32) x7 (0 : Int32) x7 x7) [(.int (if w_CronField_DAY_OF_MONTH = w_CronField_DAY_OF_WEEK then (if x7 = (7 : Int32) then (0 : Int32) else x7) else x7))])) (fun t k => st238.trans k) ?_
        rw [show (if w_CronField_DAY_OF_MONTH = w_CronField_DAY_OF_WEEK then (if x7 = (7 : Int32) then (0 : Int32) else x7) else x7) = x7 from if_neg (Fld.ne F_CronField_DAY_OF_MONTH_ordinal F_CronField_DAY_OF_WEEK_ordinal (by decide))]
        refine own_go (B := T238.setTop (mkF m 177 (LS_IIIRRIIIIII p0 p1 p2 b1 w_CronField_DAY_OF_MONTH (1 : Int32) (31 : Int32) x7 (0 : Int32) x7 x7) [(.int (1 : Int32))])) (fun t k => ?_) ?_
        · show Steps p.tables e below (T238.setTop (mkF m 167 (LS_IIIRRIIIIII p0 p1 p2 b1 w_CronField_DAY_OF_MONTH (1 : Int32) (31 : Int32) x7 (0 : Int32) x7 x7) [(.int x7)])) _
          refine XS.iload X238.here hx rfl (hb hby at_167) rfl ?_
          show Steps p.tables e below (T238.setTop (mkF m 169 (LS_IIIRRIIIIII p0 p1 p2 b1 w_CronField_DAY_OF_MONTH (1 : Int32) (31 : Int32) x7 (0 : Int32) x7 x7) [(.int x7), (.int x7)])) _
          refine XS.icmpNo X238.here hx rfl (hb hby at_169) rfl (teq (rfl : x7 = x7)).2 ?_
          show Steps p.tables e below (T238.setTop (mkF m 172 (LS_IIIRRIIIIII p0 p1 p2 b1 w_CronField_DAY_OF_MONTH (1 : Int32) (31 : Int32) x7 (0 : Int32) x7 x7) [])) _
          refine XS.iconst X238.here hx rfl (hb hby at_172) ?_
          show Steps p.tables e below (T238.setTop (mkF m 173 (LS_IIIRRIIIIII p0 p1 p2 b1 w_CronField_DAY_OF_MONTH (1 : Int32) (31 : Int32) x7 (0 : Int32) x7 x7) [(.int (1 : Int32))])) _
          refine XS.goto X238.here hx rfl (pc0 := 173) (pc' := 177) rfl (hb hby at_173) (by decide) (by decide) ?_
          exact k
        obtain ⟨fs, hr, hrun, hended, hW, hsame⟩ := X238.leave (v := some (.int (1 : Int32))) (fun h => by rw [Bd.returns] at h; cases h)
        refine ⟨_, _, ?_, hrun, hended, _, _, rfl, ?_, ⟨_, rfl⟩, hW, hsame.mono (by decide) (by decide)⟩
        · show Steps p.tables e below (T238.setTop (mkF m 177 (LS_IIIRRIIIIII p0 p1 p2 b1 w_CronField_DAY_OF_MONTH (1 : Int32) (31 : Int32) x7 (0 : Int32) x7 x7) [(.int (1 : Int32))])) _
          exact retN X238 hx (t := .boolean) Bd.returns (by simp) (hb hby at_177) hr
        · show Q0 Z p0 p1 p2 w_CronField_SECOND w_CronField_MINUTE w_CronField_HOUR w_CronField_DAY_OF_MONTH w_CronField_MONTH w_CronField_DAY_OF_WEEK h0 n0 _ T238.heap _
          rw [e238]
          exact ⟨rfl, N238⟩
      · refine own_go (B := T233.setTop (mkF m 107 (LS_IIIRRIIIuuu p0 p1 p2 b1 w_CronField_DAY_OF_MONTH (1 : Int32) (31 : Int32) x7) [(.int (31 : Int32)), (.int x7)])) (fun t k => ?_) ?_
        · show Steps p.tables e below (T233.setTop (mkF m 100 (LS_IIIRRIIIuuu p0 p1 p2 b1 w_CronField_DAY_OF_MONTH (1 : Int32) (31 : Int32) x7) [(.int x7), (.int (1 : Int32))])) _
          refine XS.icmpNo X233.here hx rfl (hb hby at_100) rfl (flt hc100_234).2.2.1 ?_
          show Steps p.tables e below (T233.setTop (mkF m 103 (LS_IIIRRIIIuuu p0 p1 p2 b1 w_CronField_DAY_OF_MONTH (1 : Int32) (31 : Int32) x7) [])) _
          refine XS.iload X233.here hx rfl (hb hby at_103) rfl ?_
          show Steps p.tables e below (T233.setTop (mkF m 105 (LS_IIIRRIIIuuu p0 p1 p2 b1 w_CronField_DAY_OF_MONTH (1 : Int32) (31 : Int32) x7) [(.int x7)])) _
          refine XS.iload X233.here hx rfl (hb hby at_105) rfl ?_
          exact k
        by_cases hc107_239 : (31 : Int32) < x7
        · have S_CronField_DAY_OF_WEEK_v240 := S_CronField_DAY_OF_WEEK_v52.wr W55
          refine own_go (B := T233.setTop (mkF m 119 (LS_IIIRRIIIIuu p0 p1 p2 b1 w_CronField_DAY_OF_MONTH (1 : Int32) (31 : Int32) x7 (0 : Int32)) [(.ref w_CronField_DAY_OF_MONTH)])) (fun t k => ?_) ?_
          · show Steps p.tables e below (T233.setTop (mkF m 107 (LS_IIIRRIIIuuu p0 p1 p2 b1 w_CronField_DAY_OF_MONTH (1 : Int32) (31 : Int32) x7) [(.int (31 : Int32)), (.int x7)])) _
            refine XS.icmpYes X233.here hx rfl (pc0 := 107) (pc' := 114) rfl (hb hby at_107) rfl (tlt hc107_239).2.2.1 (by decide) (by decide) ?_
            show Steps p.tables e below (T233.setTop (mkF m 114 (LS_IIIRRIIIuuu p0 p1 p2 b1 w_CronField_DAY_OF_MONTH (1 : Int32) (31 : Int32) x7) [])) _
            refine XS.iconst X233.here hx rfl (hb hby at_114) ?_
            show Steps p.tables e below (T233.setTop (mkF m 115 (LS_IIIRRIIIuuu p0 p1 p2 b1 w_CronField_DAY_OF_MONTH (1 : Int32) (31 : Int32) x7) [(.int (0 : Int32))])) _
            refine XS.istore X233.here hx rfl (hb hby at_115) rfl (l' := (LS_IIIRRIIIIuu p0 p1 p2 b1 w_CronField_DAY_OF_MONTH (1 : Int32) (31 : Int32) x7 (0 : Int32))) rfl ?_
            show Steps p.tables e below (T233.setTop (mkF m 117 (LS_IIIRRIIIIuu p0 p1 p2 b1 w_CronField_DAY_OF_MONTH (1 : Int32) (31 : Int32) x7 (0 : Int32)) [])) _
            refine XS.aload X233.here hx rfl (hb hby at_117) rfl rfl ?_
            exact k
          obtain ⟨T241, X241, e241, st241⟩ := getS2 X233 hx hZ hown (host := "") (Or.inl (hw _ (List.mem_of_getElem? (i := 14) rfl))) Via.refl e233 S_CronField_DAY_OF_WEEK_v240 (g := (mkF m 119 (LS_IIIRRIIIIuu p0 p1 p2 b1 w_CronField_DAY_OF_MONTH (1 : Int32) (31 : Int32) x7 (0 : Int32)) [(.ref w_CronField_DAY_OF_MONTH)])) rfl (hb hby at_119)
          refine own_go (B := T241.setTop (mkF m 122 (LS_IIIRRIIIIuu p0 p1 p2 b1 w_CronField_DAY_OF_MONTH (1 : Int32) (31 : Int32) x7 (0 : Int32)) [(.ref w_CronField_DAY_OF_WEEK), (.ref w_CronField_DAY_OF_MONTH)])) (fun t k => st241 _ k) ?_
          refine own_go (B := T241.setTop (mkF m 148 (LS_IIIRRIIIIIu p0 p1 p2 b1 w_CronField_DAY_OF_MONTH (1 : Int32) (31 : Int32) x7 (0 : Int32) x7) [(.int x7), (.ref w_CronField_DAY_OF_MONTH)])) (fun t k => ?_) ?_
          · show Steps p.tables e below (T241.setTop (mkF m 122 (LS_IIIRRIIIIuu p0 p1 p2 b1 w_CronField_DAY_OF_MONTH (1 : Int32) (31 : Int32) x7 (0 : Int32)) [(.ref w_CronField_DAY_OF_WEEK), (.ref w_CronField_DAY_OF_MONTH)])) _
            refine Jvm.RoadKit.acmp (g := (mkF m 122 (LS_IIIRRIIIIuu p0 p1 p2 b1 w_CronField_DAY_OF_MONTH (1 : Int32) (31 : Int32) x7 (0 : Int32)) [(.ref w_CronField_DAY_OF_WEEK), (.ref w_CronField_DAY_OF_MONTH)])) X241 hx rfl rfl rfl (pc0 := 122) (pc' := 140) (same := false) rfl (hb hby at_122) rfl (decide_eq_false fun q => (Fld.ne F_CronField_DAY_OF_MONTH_ordinal F_CronField_DAY_OF_WEEK_ordinal (by decide)) (Value.ref.inj q)) (by decide) (by decide) ?_
            show Steps p.tables e below (T241.setTop (mkF m 140 (LS_IIIRRIIIIuu p0 p1 p2 b1 w_CronField_DAY_OF_MONTH (1 : Int32) (31 : Int32) x7 (0 : Int32)) [])) _
            refine XS.iload X241.here hx rfl (hb hby at_140) rfl ?_
            show Steps p.tables e below (T241.setTop (mkF m 142 (LS_IIIRRIIIIuu p0 p1 p2 b1 w_CronField_DAY_OF_MONTH (1 : Int32) (31 : Int32) x7 (0 : Int32)) [(.int x7)])) _
            refine XS.istore X241.here hx rfl (hb hby at_142) rfl (l' := (LS_IIIRRIIIIIu p0 p1 p2 b1 w_CronField_DAY_OF_MONTH (1 : Int32) (31 : Int32) x7 (0 : Int32) x7)) rfl ?_
            show Steps p.tables e below (T241.setTop (mkF m 144 (LS_IIIRRIIIIIu p0 p1 p2 b1 w_CronField_DAY_OF_MONTH (1 : Int32) (31 : Int32) x7 (0 : Int32) x7) [])) _
            refine XS.aload X241.here hx rfl (hb hby at_144) rfl rfl ?_
            show Steps p.tables e below (T241.setTop (mkF m 146 (LS_IIIRRIIIIIu p0 p1 p2 b1 w_CronField_DAY_OF_MONTH (1 : Int32) (31 : Int32) x7 (0 : Int32) x7) [(.ref w_CronField_DAY_OF_MONTH)])) _
            refine XS.iload X241.here hx rfl (hb hby at_146) rfl ?_
            exact k
          obtain ⟨cq242, kq242, q242a, q242b, q242c⟩ := isOf hZ e241 E_CronField_DAY_OF_MONTH_v224
          obtain ⟨_, _, ⟨T242, L242, k242, n242⟩, -, X242, ⟨Lc242, hQ242, l242, y242, z242⟩, st242⟩ := X241.virtualBack hx (y := (⟨"com/example/murray_hill/murrayhill/cron/CronField", "canonical", "(I)I"⟩ : MethodName)) (z := (⟨"com/example/murray_hill/murrayhill/cron/CronField", "canonical", "(I)I"⟩ : MethodName)) hown (mvT hZ (hw _ (List.mem_of_getElem? (i := 31) rfl))) (mvT hZ (hw _ (List.mem_of_getElem? (i := 32) rfl))) (notFace_of_selects (args := #[]) (mvT hZ (hw _ (List.mem_of_getElem? (i := 34) rfl)))) (mvT hZ (hw _ (List.mem_of_getElem? (i := 34) rfl))) (mvT hZ (hw _ (List.mem_of_getElem? (i := 33) rfl))) (by decide) (backOf (W := 0) (rm3 l Z a0 hw [] w_CronField_DAY_OF_MONTH x7 w_CronField_DAY_OF_WEEK h55 n0 Z0_v220 S_CronField_DAY_OF_WEEK_v240) hZ (hw _ (List.mem_of_getElem? (i := 35) rfl)) (hw _ (List.mem_of_getElem? (i := 3) rfl)) (by decide) (by decide)) q242a q242c (g := (mkF m 148 (LS_IIIRRIIIIIu p0 p1 p2 b1 w_CronField_DAY_OF_MONTH (1 : Int32) (31 : Int32) x7 (0 : Int32) x7) [(.int x7), (.ref w_CronField_DAY_OF_MONTH)])) rfl (by rw [hml]; rfl) (Steps.refl _) (argsL := [(.int x7)]) (rest := []) (lenOf pd__I_I rfl) rfl (by show 2 * 0 + _ ≤ _; exact Nat.le_of_eq rfl) (hb hby at_148) (fun _ _ => ⟨rfl, e241, (by decide : 1 + 0 ≤ _), (by decide : 6 + 0 ≤ _)⟩)
          dsimp only [Pt.U, Pt.locs, Pt.cells, Pt.slots] at X242 l242 y242 z242 st242 hQ242
          subst l242 y242 z242
          obtain ⟨rfl, N242q, e242⟩ := hQ242
          have N242 := Fr.app N232 N242q
          refine own_go (B := T242.setTop (mkF m 151 (LS_IIIRRIIIIIu p0 p1 p2 b1 w_CronField_DAY_OF_MONTH (1 : Int32) (31 : Int32) x7 (0 : Int32) x7) [(.int (if w_CronField_DAY_OF_MONTH = w_CronField_DAY_OF_WEEK then (if x7 = (7 : Int32) then (0 : Int32) else x7) else x7))])) (fun t k => st242.trans k) ?_
          rw [show (if w_CronField_DAY_OF_MONTH = w_CronField_DAY_OF_WEEK then (if x7 = (7 : Int32) then (0 : Int32) else x7) else x7) = x7 from if_neg (Fld.ne F_CronField_DAY_OF_MONTH_ordinal F_CronField_DAY_OF_WEEK_ordinal (by decide))]
          refine own_go (B := T242.setTop (mkF m 164 (LS_IIIRRIIIIII p0 p1 p2 b1 w_CronField_DAY_OF_MONTH (1 : Int32) (31 : Int32) x7 (0 : Int32) x7 x7) [(.int x7), (.ref w_CronField_DAY_OF_MONTH)])) (fun t k => ?_) ?_
          · show Steps p.tables e below (T242.setTop (mkF m 151 (LS_IIIRRIIIIIu p0 p1 p2 b1 w_CronField_DAY_OF_MONTH (1 : Int32) (31 : Int32) x7 (0 : Int32) x7) [(.int x7)])) _
            refine XS.istore X242.here hx rfl (hb hby at_151) rfl (l' := (LS_IIIRRIIIIII p0 p1 p2 b1 w_CronField_DAY_OF_MONTH (1 : Int32) (31 : Int32) x7 (0 : Int32) x7 x7)) rfl ?_
            show Steps p.tables e below (T242.setTop (mkF m 153 (LS_IIIRRIIIIII p0 p1 p2 b1 w_CronField_DAY_OF_MONTH (1 : Int32) (31 : Int32) x7 (0 : Int32) x7 x7) [])) _
            refine XS.iload X242.here hx rfl (hb hby at_153) rfl ?_
            show Steps p.tables e below (T242.setTop (mkF m 155 (LS_IIIRRIIIIII p0 p1 p2 b1 w_CronField_DAY_OF_MONTH (1 : Int32) (31 : Int32) x7 (0 : Int32) x7 x7) [(.int x7)])) _
            refine XS.iload X242.here hx rfl (hb hby at_155) rfl ?_
            show Steps p.tables e below (T242.setTop (mkF m 157 (LS_IIIRRIIIIII p0 p1 p2 b1 w_CronField_DAY_OF_MONTH (1 : Int32) (31 : Int32) x7 (0 : Int32) x7 x7) [(.int x7), (.int x7)])) _
            refine XS.icmpNo X242.here hx rfl (hb hby at_157) rfl (teq (rfl : x7 = x7)).2 ?_
            show Steps p.tables e below (T242.setTop (mkF m 160 (LS_IIIRRIIIIII p0 p1 p2 b1 w_CronField_DAY_OF_MONTH (1 : Int32) (31 : Int32) x7 (0 : Int32) x7 x7) [])) _
            refine XS.aload X242.here hx rfl (hb hby at_160) rfl rfl ?_
            show Steps p.tables e below (T242.setTop (mkF m 162 (LS_IIIRRIIIIII p0 p1 p2 b1 w_CronField_DAY_OF_MONTH (1 : Int32) (31 : Int32) x7 (0 : Int32) x7 x7) [(.ref w_CronField_DAY_OF_MONTH)])) _
            refine XS.iload X242.here hx rfl (hb hby at_162) rfl ?_
            exact k
          obtain ⟨cq243, kq243, q243a, q243b, q243c⟩ := isOf hZ e242 E_CronField_DAY_OF_MONTH_v224
          obtain ⟨_, _, ⟨T243, L243, k243, n243⟩, -, X243, ⟨Lc243, hQ243, l243, y243, z243⟩, st243⟩ := X242.virtualBack hx (y := (⟨"com/example/murray_hill/murrayhill/cron/CronField", "canonical", "(I)I"⟩ : MethodName)) (z := (⟨"com/example/murray_hill/murrayhill/cron/CronField", "canonical", "(I)I"⟩ : MethodName)) hown (mvT hZ (hw _ (List.mem_of_getElem? (i := 31) rfl))) (mvT hZ (hw _ (List.mem_of_getElem? (i := 32) rfl))) (notFace_of_selects (args := #[]) (mvT hZ (hw _ (List.mem_of_getElem? (i := 34) rfl)))) (mvT hZ (hw _ (List.mem_of_getElem? (i := 34) rfl))) (mvT hZ (hw _ (List.mem_of_getElem? (i := 33) rfl))) (by decide) (backOf (W := 0) (rm3 l Z a0 hw [] w_CronField_DAY_OF_MONTH x7 w_CronField_DAY_OF_WEEK h55 n0 Z0_v220 S_CronField_DAY_OF_WEEK_v240) hZ (hw _ (List.mem_of_getElem? (i := 35) rfl)) (hw _ (List.mem_of_getElem? (i := 3) rfl)) (by decide) (by decide)) q243a q243c (g := (mkF m 164 (LS_IIIRRIIIIII p0 p1 p2 b1 w_CronField_DAY_OF_MONTH (1 : Int32) (31 : Int32) x7 (0 : Int32) x7 x7) [(.int x7), (.ref w_CronField_DAY_OF_MONTH)])) rfl (by rw [hml]; rfl) (Steps.refl _) (argsL := [(.int x7)]) (rest := []) (lenOf pd__I_I rfl) rfl (by show 2 * 0 + _ ≤ _; exact Nat.le_of_eq rfl) (hb hby at_164) (fun _ _ => ⟨rfl, e242, (by decide : 1 + 0 ≤ _), (by decide : 6 + 0 ≤ _)⟩)
          dsimp only [Pt.U, Pt.locs, Pt.cells, Pt.slots] at X243 l243 y243 z243 st243 hQ243
          subst l243 y243 z243
          obtain ⟨rfl, N243q, e243⟩ := hQ243
          have N243 := Fr.app N242 N243q
          refine own_go (B := T243.setTop (mkF m 167 (LS_IIIRRIIIIII p0 p1 p2 b1 w_CronField_DAY_OF_MONTH (1 : Int32) (31 : Int32) x7 (0 : Int32) x7 x7) [(.int (if w_CronField_DAY_OF_MONTH = w_CronField_DAY_OF_WEEK then (if x7 = (7 : Int32) then (0 : Int32) else x7) else x7))])) (fun t k => st243.trans k) ?_
          rw [show (if w_CronField_DAY_OF_MONTH = w_CronField_DAY_OF_WEEK then (if x7 = (7 : Int32) then (0 : Int32) else x7) else x7) = x7 from if_neg (Fld.ne F_CronField_DAY_OF_MONTH_ordinal F_CronField_DAY_OF_WEEK_ordinal (by decide))]
          refine own_go (B := T243.setTop (mkF m 177 (LS_IIIRRIIIIII p0 p1 p2 b1 w_CronField_DAY_OF_MONTH (1 : Int32) (31 : Int32) x7 (0 : Int32) x7 x7) [(.int (1 : Int32))])) (fun t k => ?_) ?_
          · show Steps p.tables e below (T243.setTop (mkF m 167 (LS_IIIRRIIIIII p0 p1 p2 b1 w_CronField_DAY_OF_MONTH (1 : Int32) (31 : Int32) x7 (0 : Int32) x7 x7) [(.int x7)])) _
            refine XS.iload X243.here hx rfl (hb hby at_167) rfl ?_
            show Steps p.tables e below (T243.setTop (mkF m 169 (LS_IIIRRIIIIII p0 p1 p2 b1 w_CronField_DAY_OF_MONTH (1 : Int32) (31 : Int32) x7 (0 : Int32) x7 x7) [(.int x7), (.int x7)])) _
            refine XS.icmpNo X243.here hx rfl (hb hby at_169) rfl (teq (rfl : x7 = x7)).2 ?_
            show Steps p.tables e below (T243.setTop (mkF m 172 (LS_IIIRRIIIIII p0 p1 p2 b1 w_CronField_DAY_OF_MONTH (1 : Int32) (31 : Int32) x7 (0 : Int32) x7 x7) [])) _
            refine XS.iconst X243.here hx rfl (hb hby at_172) ?_
            show Steps p.tables e below (T243.setTop (mkF m 173 (LS_IIIRRIIIIII p0 p1 p2 b1 w_CronField_DAY_OF_MONTH (1 : Int32) (31 : Int32) x7 (0 : Int32) x7 x7) [(.int (1 : Int32))])) _
            refine XS.goto X243.here hx rfl (pc0 := 173) (pc' := 177) rfl (hb hby at_173) (by decide) (by decide) ?_
            exact k
          obtain ⟨fs, hr, hrun, hended, hW, hsame⟩ := X243.leave (v := some (.int (1 : Int32))) (fun h => by rw [Bd.returns] at h; cases h)
          refine ⟨_, _, ?_, hrun, hended, _, _, rfl, ?_, ⟨_, rfl⟩, hW, hsame.mono (by decide) (by decide)⟩
          · show Steps p.tables e below (T243.setTop (mkF m 177 (LS_IIIRRIIIIII p0 p1 p2 b1 w_CronField_DAY_OF_MONTH (1 : Int32) (31 : Int32) x7 (0 : Int32) x7 x7) [(.int (1 : Int32))])) _
            exact retN X243 hx (t := .boolean) Bd.returns (by simp) (hb hby at_177) hr
          · show Q0 Z p0 p1 p2 w_CronField_SECOND w_CronField_MINUTE w_CronField_HOUR w_CronField_DAY_OF_MONTH w_CronField_MONTH w_CronField_DAY_OF_WEEK h0 n0 _ T243.heap _
            rw [e243]
            exact ⟨rfl, N243⟩
        · have S_CronField_DAY_OF_WEEK_v244 := S_CronField_DAY_OF_WEEK_v52.wr W55
          refine own_go (B := T233.setTop (mkF m 119 (LS_IIIRRIIIIuu p0 p1 p2 b1 w_CronField_DAY_OF_MONTH (1 : Int32) (31 : Int32) x7 (1 : Int32)) [(.ref w_CronField_DAY_OF_MONTH)])) (fun t k => ?_) ?_
          · show Steps p.tables e below (T233.setTop (mkF m 107 (LS_IIIRRIIIuuu p0 p1 p2 b1 w_CronField_DAY_OF_MONTH (1 : Int32) (31 : Int32) x7) [(.int (31 : Int32)), (.int x7)])) _
            refine XS.icmpNo X233.here hx rfl (hb hby at_107) rfl (flt hc107_239).2.2.1 ?_
            show Steps p.tables e below (T233.setTop (mkF m 110 (LS_IIIRRIIIuuu p0 p1 p2 b1 w_CronField_DAY_OF_MONTH (1 : Int32) (31 : Int32) x7) [])) _
            refine XS.iconst X233.here hx rfl (hb hby at_110) ?_
            show Steps p.tables e below (T233.setTop (mkF m 111 (LS_IIIRRIIIuuu p0 p1 p2 b1 w_CronField_DAY_OF_MONTH (1 : Int32) (31 : Int32) x7) [(.int (1 : Int32))])) _
            refine XS.goto X233.here hx rfl (pc0 := 111) (pc' := 115) rfl (hb hby at_111) (by decide) (by decide) ?_
            show Steps p.tables e below (T233.setTop (mkF m 115 (LS_IIIRRIIIuuu p0 p1 p2 b1 w_CronField_DAY_OF_MONTH (1 : Int32) (31 : Int32) x7) [(.int (1 : Int32))])) _
            refine XS.istore X233.here hx rfl (hb hby at_115) rfl (l' := (LS_IIIRRIIIIuu p0 p1 p2 b1 w_CronField_DAY_OF_MONTH (1 : Int32) (31 : Int32) x7 (1 : Int32))) rfl ?_
            show Steps p.tables e below (T233.setTop (mkF m 117 (LS_IIIRRIIIIuu p0 p1 p2 b1 w_CronField_DAY_OF_MONTH (1 : Int32) (31 : Int32) x7 (1 : Int32)) [])) _
            refine XS.aload X233.here hx rfl (hb hby at_117) rfl rfl ?_
            exact k
          obtain ⟨T245, X245, e245, st245⟩ := getS2 X233 hx hZ hown (host := "") (Or.inl (hw _ (List.mem_of_getElem? (i := 14) rfl))) Via.refl e233 S_CronField_DAY_OF_WEEK_v244 (g := (mkF m 119 (LS_IIIRRIIIIuu p0 p1 p2 b1 w_CronField_DAY_OF_MONTH (1 : Int32) (31 : Int32) x7 (1 : Int32)) [(.ref w_CronField_DAY_OF_MONTH)])) rfl (hb hby at_119)
          refine own_go (B := T245.setTop (mkF m 122 (LS_IIIRRIIIIuu p0 p1 p2 b1 w_CronField_DAY_OF_MONTH (1 : Int32) (31 : Int32) x7 (1 : Int32)) [(.ref w_CronField_DAY_OF_WEEK), (.ref w_CronField_DAY_OF_MONTH)])) (fun t k => st245 _ k) ?_
          refine own_go (B := T245.setTop (mkF m 148 (LS_IIIRRIIIIIu p0 p1 p2 b1 w_CronField_DAY_OF_MONTH (1 : Int32) (31 : Int32) x7 (1 : Int32) x7) [(.int x7), (.ref w_CronField_DAY_OF_MONTH)])) (fun t k => ?_) ?_
          · show Steps p.tables e below (T245.setTop (mkF m 122 (LS_IIIRRIIIIuu p0 p1 p2 b1 w_CronField_DAY_OF_MONTH (1 : Int32) (31 : Int32) x7 (1 : Int32)) [(.ref w_CronField_DAY_OF_WEEK), (.ref w_CronField_DAY_OF_MONTH)])) _
            refine Jvm.RoadKit.acmp (g := (mkF m 122 (LS_IIIRRIIIIuu p0 p1 p2 b1 w_CronField_DAY_OF_MONTH (1 : Int32) (31 : Int32) x7 (1 : Int32)) [(.ref w_CronField_DAY_OF_WEEK), (.ref w_CronField_DAY_OF_MONTH)])) X245 hx rfl rfl rfl (pc0 := 122) (pc' := 140) (same := false) rfl (hb hby at_122) rfl (decide_eq_false fun q => (Fld.ne F_CronField_DAY_OF_MONTH_ordinal F_CronField_DAY_OF_WEEK_ordinal (by decide)) (Value.ref.inj q)) (by decide) (by decide) ?_
            show Steps p.tables e below (T245.setTop (mkF m 140 (LS_IIIRRIIIIuu p0 p1 p2 b1 w_CronField_DAY_OF_MONTH (1 : Int32) (31 : Int32) x7 (1 : Int32)) [])) _
            refine XS.iload X245.here hx rfl (hb hby at_140) rfl ?_
            show Steps p.tables e below (T245.setTop (mkF m 142 (LS_IIIRRIIIIuu p0 p1 p2 b1 w_CronField_DAY_OF_MONTH (1 : Int32) (31 : Int32) x7 (1 : Int32)) [(.int x7)])) _
            refine XS.istore X245.here hx rfl (hb hby at_142) rfl (l' := (LS_IIIRRIIIIIu p0 p1 p2 b1 w_CronField_DAY_OF_MONTH (1 : Int32) (31 : Int32) x7 (1 : Int32) x7)) rfl ?_
            show Steps p.tables e below (T245.setTop (mkF m 144 (LS_IIIRRIIIIIu p0 p1 p2 b1 w_CronField_DAY_OF_MONTH (1 : Int32) (31 : Int32) x7 (1 : Int32) x7) [])) _
            refine XS.aload X245.here hx rfl (hb hby at_144) rfl rfl ?_
            show Steps p.tables e below (T245.setTop (mkF m 146 (LS_IIIRRIIIIIu p0 p1 p2 b1 w_CronField_DAY_OF_MONTH (1 : Int32) (31 : Int32) x7 (1 : Int32) x7) [(.ref w_CronField_DAY_OF_MONTH)])) _
            refine XS.iload X245.here hx rfl (hb hby at_146) rfl ?_
            exact k
          obtain ⟨cq246, kq246, q246a, q246b, q246c⟩ := isOf hZ e245 E_CronField_DAY_OF_MONTH_v224
          obtain ⟨_, _, ⟨T246, L246, k246, n246⟩, -, X246, ⟨Lc246, hQ246, l246, y246, z246⟩, st246⟩ := X245.virtualBack hx (y := (⟨"com/example/murray_hill/murrayhill/cron/CronField", "canonical", "(I)I"⟩ : MethodName)) (z := (⟨"com/example/murray_hill/murrayhill/cron/CronField", "canonical", "(I)I"⟩ : MethodName)) hown (mvT hZ (hw _ (List.mem_of_getElem? (i := 31) rfl))) (mvT hZ (hw _ (List.mem_of_getElem? (i := 32) rfl))) (notFace_of_selects (args := #[]) (mvT hZ (hw _ (List.mem_of_getElem? (i := 34) rfl)))) (mvT hZ (hw _ (List.mem_of_getElem? (i := 34) rfl))) (mvT hZ (hw _ (List.mem_of_getElem? (i := 33) rfl))) (by decide) (backOf (W := 0) (rm3 l Z a0 hw [] w_CronField_DAY_OF_MONTH x7 w_CronField_DAY_OF_WEEK h55 n0 Z0_v220 S_CronField_DAY_OF_WEEK_v244) hZ (hw _ (List.mem_of_getElem? (i := 35) rfl)) (hw _ (List.mem_of_getElem? (i := 3) rfl)) (by decide) (by decide)) q246a q246c (g := (mkF m 148 (LS_IIIRRIIIIIu p0 p1 p2 b1 w_CronField_DAY_OF_MONTH (1 : Int32) (31 : Int32) x7 (1 : Int32) x7) [(.int x7), (.ref w_CronField_DAY_OF_MONTH)])) rfl (by rw [hml]; rfl) (Steps.refl _) (argsL := [(.int x7)]) (rest := []) (lenOf pd__I_I rfl) rfl (by show 2 * 0 + _ ≤ _; exact Nat.le_of_eq rfl) (hb hby at_148) (fun _ _ => ⟨rfl, e245, (by decide : 1 + 0 ≤ _), (by decide : 6 + 0 ≤ _)⟩)
          dsimp only [Pt.U, Pt.locs, Pt.cells, Pt.slots] at X246 l246 y246 z246 st246 hQ246
          subst l246 y246 z246
          obtain ⟨rfl, N246q, e246⟩ := hQ246
          have N246 := Fr.app N232 N246q
          refine own_go (B := T246.setTop (mkF m 151 (LS_IIIRRIIIIIu p0 p1 p2 b1 w_CronField_DAY_OF_MONTH (1 : Int32) (31 : Int32) x7 (1 : Int32) x7) [(.int (if w_CronField_DAY_OF_MONTH = w_CronField_DAY_OF_WEEK then (if x7 = (7 : Int32) then (0 : Int32) else x7) else x7))])) (fun t k => st246.trans k) ?_
          rw [show (if w_CronField_DAY_OF_MONTH = w_CronField_DAY_OF_WEEK then (if x7 = (7 : Int32) then (0 : Int32) else x7) else x7) = x7 from if_neg (Fld.ne F_CronField_DAY_OF_MONTH_ordinal F_CronField_DAY_OF_WEEK_ordinal (by decide))]
          refine own_go (B := T246.setTop (mkF m 164 (LS_IIIRRIIIIII p0 p1 p2 b1 w_CronField_DAY_OF_MONTH (1 : Int32) (31 : Int32) x7 (1 : Int32) x7 x7) [(.int x7), (.ref w_CronField_DAY_OF_MONTH)])) (fun t k => ?_) ?_
          · show Steps p.tables e below (T246.setTop (mkF m 151 (LS_IIIRRIIIIIu p0 p1 p2 b1 w_CronField_DAY_OF_MONTH (1 : Int32) (31 : Int32) x7 (1 : Int32) x7) [(.int x7)])) _
            refine XS.istore X246.here hx rfl (hb hby at_151) rfl (l' := (LS_IIIRRIIIIII p0 p1 p2 b1 w_CronField_DAY_OF_MONTH (1 : Int32) (31 : Int32) x7 (1 : Int32) x7 x7)) rfl ?_
            show Steps p.tables e below (T246.setTop (mkF m 153 (LS_IIIRRIIIIII p0 p1 p2 b1 w_CronField_DAY_OF_MONTH (1 : Int32) (31 : Int32) x7 (1 : Int32) x7 x7) [])) _
            refine XS.iload X246.here hx rfl (hb hby at_153) rfl ?_
            show Steps p.tables e below (T246.setTop (mkF m 155 (LS_IIIRRIIIIII p0 p1 p2 b1 w_CronField_DAY_OF_MONTH (1 : Int32) (31 : Int32) x7 (1 : Int32) x7 x7) [(.int x7)])) _
            refine XS.iload X246.here hx rfl (hb hby at_155) rfl ?_
            show Steps p.tables e below (T246.setTop (mkF m 157 (LS_IIIRRIIIIII p0 p1 p2 b1 w_CronField_DAY_OF_MONTH (1 : Int32) (31 : Int32) x7 (1 : Int32) x7 x7) [(.int x7), (.int x7)])) _
            refine XS.icmpNo X246.here hx rfl (hb hby at_157) rfl (teq (rfl : x7 = x7)).2 ?_
            show Steps p.tables e below (T246.setTop (mkF m 160 (LS_IIIRRIIIIII p0 p1 p2 b1 w_CronField_DAY_OF_MONTH (1 : Int32) (31 : Int32) x7 (1 : Int32) x7 x7) [])) _
            refine XS.aload X246.here hx rfl (hb hby at_160) rfl rfl ?_
            show Steps p.tables e below (T246.setTop (mkF m 162 (LS_IIIRRIIIIII p0 p1 p2 b1 w_CronField_DAY_OF_MONTH (1 : Int32) (31 : Int32) x7 (1 : Int32) x7 x7) [(.ref w_CronField_DAY_OF_MONTH)])) _
            refine XS.iload X246.here hx rfl (hb hby at_162) rfl ?_
            exact k
          obtain ⟨cq247, kq247, q247a, q247b, q247c⟩ := isOf hZ e246 E_CronField_DAY_OF_MONTH_v224
          obtain ⟨_, _, ⟨T247, L247, k247, n247⟩, -, X247, ⟨Lc247, hQ247, l247, y247, z247⟩, st247⟩ := X246.virtualBack hx (y := (⟨"com/example/murray_hill/murrayhill/cron/CronField", "canonical", "(I)I"⟩ : MethodName)) (z := (⟨"com/example/murray_hill/murrayhill/cron/CronField", "canonical", "(I)I"⟩ : MethodName)) hown (mvT hZ (hw _ (List.mem_of_getElem? (i := 31) rfl))) (mvT hZ (hw _ (List.mem_of_getElem? (i := 32) rfl))) (notFace_of_selects (args := #[]) (mvT hZ (hw _ (List.mem_of_getElem? (i := 34) rfl)))) (mvT hZ (hw _ (List.mem_of_getElem? (i := 34) rfl))) (mvT hZ (hw _ (List.mem_of_getElem? (i := 33) rfl))) (by decide) (backOf (W := 0) (rm3 l Z a0 hw [] w_CronField_DAY_OF_MONTH x7 w_CronField_DAY_OF_WEEK h55 n0 Z0_v220 S_CronField_DAY_OF_WEEK_v244) hZ (hw _ (List.mem_of_getElem? (i := 35) rfl)) (hw _ (List.mem_of_getElem? (i := 3) rfl)) (by decide) (by decide)) q247a q247c (g := (mkF m 164 (LS_IIIRRIIIIII p0 p1 p2 b1 w_CronField_DAY_OF_MONTH (1 : Int32) (31 : Int32) x7 (1 : Int32) x7 x7) [(.int x7), (.ref w_CronField_DAY_OF_MONTH)])) rfl (by rw [hml]; rfl) (Steps.refl _) (argsL := [(.int x7)]) (rest := []) (lenOf pd__I_I rfl) rfl (by show 2 * 0 + _ ≤ _; exact Nat.le_of_eq rfl) (hb hby at_164) (fun _ _ => ⟨rfl, e246, (by decide : 1 + 0 ≤ _), (by decide : 6 + 0 ≤ _)⟩)
          dsimp only [Pt.U, Pt.locs, Pt.cells, Pt.slots] at X247 l247 y247 z247 st247 hQ247
          subst l247 y247 z247
          obtain ⟨rfl, N247q, e247⟩ := hQ247
          have N247 := Fr.app N246 N247q
          refine own_go (B := T247.setTop (mkF m 167 (LS_IIIRRIIIIII p0 p1 p2 b1 w_CronField_DAY_OF_MONTH (1 : Int32) (31 : Int32) x7 (1 : Int32) x7 x7) [(.int (if w_CronField_DAY_OF_MONTH = w_CronField_DAY_OF_WEEK then (if x7 = (7 : Int32) then (0 : Int32) else x7) else x7))])) (fun t k => st247.trans k) ?_
          rw [show (if w_CronField_DAY_OF_MONTH = w_CronField_DAY_OF_WEEK then (if x7 = (7 : Int32) then (0 : Int32) else x7) else x7) = x7 from if_neg (Fld.ne F_CronField_DAY_OF_MONTH_ordinal F_CronField_DAY_OF_WEEK_ordinal (by decide))]
          refine own_go (B := T247.setTop (mkF m 177 (LS_IIIRRIIIIII p0 p1 p2 b1 w_CronField_DAY_OF_MONTH (1 : Int32) (31 : Int32) x7 (1 : Int32) x7 x7) [(.int (1 : Int32))])) (fun t k => ?_) ?_
          · show Steps p.tables e below (T247.setTop (mkF m 167 (LS_IIIRRIIIIII p0 p1 p2 b1 w_CronField_DAY_OF_MONTH (1 : Int32) (31 : Int32) x7 (1 : Int32) x7 x7) [(.int x7)])) _
            refine XS.iload X247.here hx rfl (hb hby at_167) rfl ?_
            show Steps p.tables e below (T247.setTop (mkF m 169 (LS_IIIRRIIIIII p0 p1 p2 b1 w_CronField_DAY_OF_MONTH (1 : Int32) (31 : Int32) x7 (1 : Int32) x7 x7) [(.int x7), (.int x7)])) _
            refine XS.icmpNo X247.here hx rfl (hb hby at_169) rfl (teq (rfl : x7 = x7)).2 ?_
            show Steps p.tables e below (T247.setTop (mkF m 172 (LS_IIIRRIIIIII p0 p1 p2 b1 w_CronField_DAY_OF_MONTH (1 : Int32) (31 : Int32) x7 (1 : Int32) x7 x7) [])) _
            refine XS.iconst X247.here hx rfl (hb hby at_172) ?_
            show Steps p.tables e below (T247.setTop (mkF m 173 (LS_IIIRRIIIIII p0 p1 p2 b1 w_CronField_DAY_OF_MONTH (1 : Int32) (31 : Int32) x7 (1 : Int32) x7 x7) [(.int (1 : Int32))])) _
            refine XS.goto X247.here hx rfl (pc0 := 173) (pc' := 177) rfl (hb hby at_173) (by decide) (by decide) ?_
            exact k
          obtain ⟨fs, hr, hrun, hended, hW, hsame⟩ := X247.leave (v := some (.int (1 : Int32))) (fun h => by rw [Bd.returns] at h; cases h)
          refine ⟨_, _, ?_, hrun, hended, _, _, rfl, ?_, ⟨_, rfl⟩, hW, hsame.mono (by decide) (by decide)⟩
          · show Steps p.tables e below (T247.setTop (mkF m 177 (LS_IIIRRIIIIII p0 p1 p2 b1 w_CronField_DAY_OF_MONTH (1 : Int32) (31 : Int32) x7 (1 : Int32) x7 x7) [(.int (1 : Int32))])) _
            exact retN X247 hx (t := .boolean) Bd.returns (by simp) (hb hby at_177) hr
          · show Q0 Z p0 p1 p2 w_CronField_SECOND w_CronField_MINUTE w_CronField_HOUR w_CronField_DAY_OF_MONTH w_CronField_MONTH w_CronField_DAY_OF_WEEK h0 n0 _ T247.heap _
            rw [e247]
            exact ⟨rfl, N247⟩
    · intro rest233
      refine own_go (B := T232.setTop (mkF m 70 (LS_IIIRRIIuuuu p0 p1 p2 b1 w_CronField_DAY_OF_MONTH (1 : Int32) (31 : Int32)) [(.int (p2 &&& (1 : Int32)))])) (fun t k => ?_) ?_
      · show Steps p.tables e below (T232.setTop (mkF m 67 (LS_IIIRRIIuuuu p0 p1 p2 b1 w_CronField_DAY_OF_MONTH (1 : Int32) (31 : Int32)) [])) _
        refine XS.iloadN X232.here hx rfl (hb hby at_67) rfl ?_
        show Steps p.tables e below (T232.setTop (mkF m 68 (LS_IIIRRIIuuuu p0 p1 p2 b1 w_CronField_DAY_OF_MONTH (1 : Int32) (31 : Int32)) [(.int p2)])) _
        refine XS.iconst X232.here hx rfl (hb hby at_68) ?_
        show Steps p.tables e below (T232.setTop (mkF m 69 (LS_IIIRRIIuuuu p0 p1 p2 b1 w_CronField_DAY_OF_MONTH (1 : Int32) (31 : Int32)) [(.int (1 : Int32)), (.int p2)])) _
        refine XS.iand X232.here hx rfl (hb hby at_69) rfl ?_
        exact k
      by_cases hc70_248 : (p2 &&& (1 : Int32)) = (0 : Int32)
      · refine own_go (B := T232.setTop (mkF m 96 (LS_IIIRRIIIuuu p0 p1 p2 b1 w_CronField_DAY_OF_MONTH (1 : Int32) (31 : Int32) ((1 : Int32) + ((p1 &&& (2147483647 : Int32)) % (((31 : Int32) - (1 : Int32)) + (1 : Int32))))) [])) (fun t k => ?_) ?_
        · show Steps p.tables e below (T232.setTop (mkF m 70 (LS_IIIRRIIuuuu p0 p1 p2 b1 w_CronField_DAY_OF_MONTH (1 : Int32) (31 : Int32)) [(.int (p2 &&& (1 : Int32)))])) _
          refine XS.ifYes X232.here hx rfl (pc0 := 70) (pc' := 79) rfl (hb hby at_70) rfl ((if0 _ _).trans (teq hc70_248).1) (by decide) (by decide) ?_
          show Steps p.tables e below (T232.setTop (mkF m 79 (LS_IIIRRIIuuuu p0 p1 p2 b1 w_CronField_DAY_OF_MONTH (1 : Int32) (31 : Int32)) [])) _
          refine XS.iload X232.here hx rfl (hb hby at_79) rfl ?_
          show Steps p.tables e below (T232.setTop (mkF m 81 (LS_IIIRRIIuuuu p0 p1 p2 b1 w_CronField_DAY_OF_MONTH (1 : Int32) (31 : Int32)) [(.int (1 : Int32))])) _
          refine XS.iloadN X232.here hx rfl (hb hby at_81) rfl ?_
          show Steps p.tables e below (T232.setTop (mkF m 82 (LS_IIIRRIIuuuu p0 p1 p2 b1 w_CronField_DAY_OF_MONTH (1 : Int32) (31 : Int32)) [(.int p1), (.int (1 : Int32))])) _
          refine X232.ldcInt hx hown (mvT hZ (hw _ (List.mem_of_getElem? (i := 16) rfl))) (g := (mkF m 82 (LS_IIIRRIIuuuu p0 p1 p2 b1 w_CronField_DAY_OF_MONTH (1 : Int32) (31 : Int32)) [(.int p1), (.int (1 : Int32))])) rfl (hb hby at_82) _ ?_
          show Steps p.tables e below (T232.setTop (mkF m 84 (LS_IIIRRIIuuuu p0 p1 p2 b1 w_CronField_DAY_OF_MONTH (1 : Int32) (31 : Int32)) [(.int (2147483647 : Int32)), (.int p1), (.int (1 : Int32))])) _
          refine XS.iand X232.here hx rfl (hb hby at_84) rfl ?_
          show Steps p.tables e below (T232.setTop (mkF m 85 (LS_IIIRRIIuuuu p0 p1 p2 b1 w_CronField_DAY_OF_MONTH (1 : Int32) (31 : Int32)) [(.int (p1 &&& (2147483647 : Int32))), (.int (1 : Int32))])) _
          refine XS.iload X232.here hx rfl (hb hby at_85) rfl ?_
          show Steps p.tables e below (T232.setTop (mkF m 87 (LS_IIIRRIIuuuu p0 p1 p2 b1 w_CronField_DAY_OF_MONTH (1 : Int32) (31 : Int32)) [(.int (31 : Int32)), (.int (p1 &&& (2147483647 : Int32))), (.int (1 : Int32))])) _
          refine XS.iload X232.here hx rfl (hb hby at_87) rfl ?_
          show Steps p.tables e below (T232.setTop (mkF m 89 (LS_IIIRRIIuuuu p0 p1 p2 b1 w_CronField_DAY_OF_MONTH (1 : Int32) (31 : Int32)) [(.int (1 : Int32)), (.int (31 : Int32)), (.int (p1 &&& (2147483647 : Int32))), (.int (1 : Int32))])) _
          refine XS.isub X232.here hx rfl (hb hby at_89) rfl ?_
          show Steps p.tables e below (T232.setTop (mkF m 90 (LS_IIIRRIIuuuu p0 p1 p2 b1 w_CronField_DAY_OF_MONTH (1 : Int32) (31 : Int32)) [(.int ((31 : Int32) - (1 : Int32))), (.int (p1 &&& (2147483647 : Int32))), (.int (1 : Int32))])) _
          refine XS.iconst X232.here hx rfl (hb hby at_90) ?_
          show Steps p.tables e below (T232.setTop (mkF m 91 (LS_IIIRRIIuuuu p0 p1 p2 b1 w_CronField_DAY_OF_MONTH (1 : Int32) (31 : Int32)) [(.int (1 : Int32)), (.int ((31 : Int32) - (1 : Int32))), (.int (p1 &&& (2147483647 : Int32))), (.int (1 : Int32))])) _
          refine XS.iadd X232.here hx rfl (hb hby at_91) rfl ?_
          show Steps p.tables e below (T232.setTop (mkF m 92 (LS_IIIRRIIuuuu p0 p1 p2 b1 w_CronField_DAY_OF_MONTH (1 : Int32) (31 : Int32)) [(.int (((31 : Int32) - (1 : Int32)) + (1 : Int32))), (.int (p1 &&& (2147483647 : Int32))), (.int (1 : Int32))])) _
          refine Jvm.RoadKit.iremM X232 hx rfl (hb hby at_92) rfl (by decide) ?_
          show Steps p.tables e below (T232.setTop (mkF m 93 (LS_IIIRRIIuuuu p0 p1 p2 b1 w_CronField_DAY_OF_MONTH (1 : Int32) (31 : Int32)) [(.int ((p1 &&& (2147483647 : Int32)) % (((31 : Int32) - (1 : Int32)) + (1 : Int32)))), (.int (1 : Int32))])) _
          refine XS.iadd X232.here hx rfl (hb hby at_93) rfl ?_
          show Steps p.tables e below (T232.setTop (mkF m 94 (LS_IIIRRIIuuuu p0 p1 p2 b1 w_CronField_DAY_OF_MONTH (1 : Int32) (31 : Int32)) [(.int ((1 : Int32) + ((p1 &&& (2147483647 : Int32)) % (((31 : Int32) - (1 : Int32)) + (1 : Int32)))))])) _
          refine XS.istore X232.here hx rfl (hb hby at_94) rfl (l' := (LS_IIIRRIIIuuu p0 p1 p2 b1 w_CronField_DAY_OF_MONTH (1 : Int32) (31 : Int32) ((1 : Int32) + ((p1 &&& (2147483647 : Int32)) % (((31 : Int32) - (1 : Int32)) + (1 : Int32)))))) rfl ?_
          exact k
        exact rest233 ((1 : Int32) + ((p1 &&& (2147483647 : Int32)) % (((31 : Int32) - (1 : Int32)) + (1 : Int32)))) _ X232 e232
      · refine own_go (B := T232.setTop (mkF m 96 (LS_IIIRRIIIuuu p0 p1 p2 b1 w_CronField_DAY_OF_MONTH (1 : Int32) (31 : Int32) p1) [])) (fun t k => ?_) ?_
        · show Steps p.tables e below (T232.setTop (mkF m 70 (LS_IIIRRIIuuuu p0 p1 p2 b1 w_CronField_DAY_OF_MONTH (1 : Int32) (31 : Int32)) [(.int (p2 &&& (1 : Int32)))])) _
          refine XS.ifNo X232.here hx rfl (hb hby at_70) rfl ((if0 _ _).trans (feq hc70_248).1) ?_
          show Steps p.tables e below (T232.setTop (mkF m 73 (LS_IIIRRIIuuuu p0 p1 p2 b1 w_CronField_DAY_OF_MONTH (1 : Int32) (31 : Int32)) [])) _
          refine XS.iloadN X232.here hx rfl (hb hby at_73) rfl ?_
          show Steps p.tables e below (T232.setTop (mkF m 74 (LS_IIIRRIIuuuu p0 p1 p2 b1 w_CronField_DAY_OF_MONTH (1 : Int32) (31 : Int32)) [(.int p1)])) _
          refine XS.istore X232.here hx rfl (hb hby at_74) rfl (l' := (LS_IIIRRIIIuuu p0 p1 p2 b1 w_CronField_DAY_OF_MONTH (1 : Int32) (31 : Int32) p1)) rfl ?_
          show Steps p.tables e below (T232.setTop (mkF m 76 (LS_IIIRRIIIuuu p0 p1 p2 b1 w_CronField_DAY_OF_MONTH (1 : Int32) (31 : Int32) p1) [])) _
          refine XS.goto X232.here hx rfl (pc0 := 76) (pc' := 96) rfl (hb hby at_76) (by decide) (by decide) ?_
          exact k
        exact rest233 p1 _ X232 e232
  · rw [hk62]
    obtain ⟨cl249, Ar249, qa249, Sa249, Na249, Ha249, Ga249⟩ := V55
    have hin250 : ¬ ((4 : Int32) < 0 ∨ cl249.slots.size ≤ ((4 : Int32)).toNatClampNeg) := inb_of Sa249 ⟨by decide, by decide⟩
    have hat250 : cl249.slots[((4 : Int32)).toNatClampNeg]? = some (.ref w_CronField_MONTH) := Has.at Ha249 hin250 rfl
    refine own_go (B := T55.setTop (mkF m 55 (LS_IIIRRuuuuuu p0 p1 p2 b1 w_CronField_MONTH) [(.ref w_CronField_MONTH)])) (fun t k => ?_) ?_
    · show Steps p.tables e below (T55.setTop (mkF m 50 (LS_IIIRuuuuuuu p0 p1 p2 b1) [(.int (4 : Int32)), (.ref b1)])) _
      refine X55.aaload hx (j := (4 : Int32)) (v := (.ref w_CronField_MONTH)) (by rw [e55]; exact Ar249.1) (State.isArrayOf_alike hZ.alike Ar249.2.1) rfl Ar249.2.2 hin250 hat250 (g := (mkF m 50 (LS_IIIRuuuuuuu p0 p1 p2 b1) [(.int (4 : Int32)), (.ref b1)])) rfl rfl (hb hby at_50) _ ?_
      show Steps p.tables e below (T55.setTop (mkF m 51 (LS_IIIRuuuuuuu p0 p1 p2 b1) [(.ref w_CronField_MONTH)])) _
      refine XS.astore X55.here hx rfl (hb hby at_51) rfl rfl (l' := (LS_IIIRRuuuuuu p0 p1 p2 b1 w_CronField_MONTH)) rfl ?_
      show Steps p.tables e below (T55.setTop (mkF m 53 (LS_IIIRRuuuuuu p0 p1 p2 b1 w_CronField_MONTH) [])) _
      refine XS.aload X55.here hx rfl (hb hby at_53) rfl rfl ?_
      exact k
    have F_CronField_MONTH_min_v251 := F_CronField_MONTH_min.ext E1
    have ne253 : w_CronField_MONTH ≠ b1 := Nat.ne_of_lt (Nat.lt_of_lt_of_le F_CronField_MONTH_min.lt (Nat.le_of_eq g1.symm))
    have F_CronField_MONTH_min_v252 := F_CronField_MONTH_min_v251.other W5 (Or.inl ne253)
    have F_CronField_MONTH_min_v254 := F_CronField_MONTH_min_v252.other W11 (Or.inl ne253)
    have F_CronField_MONTH_min_v255 := F_CronField_MONTH_min_v254.other W19 (Or.inl ne253)
    have F_CronField_MONTH_min_v256 := F_CronField_MONTH_min_v255.other W29 (Or.inl ne253)
    have F_CronField_MONTH_min_v257 := F_CronField_MONTH_min_v256.other W41 (Or.inl ne253)
    have F_CronField_MONTH_min_v258 := F_CronField_MONTH_min_v257.other W55 (Or.inl ne253)
    have Z0_v259 := Nat.le_trans Z0 E1.1
    have Z0_v260 := Nat.le_trans Z0_v259 (Nat.le_of_eq W5.size.symm)
    have Z0_v261 := Nat.le_trans Z0_v260 (Nat.le_of_eq W11.size.symm)
    have Z0_v262 := Nat.le_trans Z0_v261 (Nat.le_of_eq W19.size.symm)
    have Z0_v263 := Nat.le_trans Z0_v262 (Nat.le_of_eq W29.size.symm)
    have Z0_v264 := Nat.le_trans Z0_v263 (Nat.le_of_eq W41.size.symm)
    have Z0_v265 := Nat.le_trans Z0_v264 (Nat.le_of_eq W55.size.symm)
    have E_CronField_MONTH_v267 := E_CronField_MONTH_v46.wr W41
    have E_CronField_MONTH_v268 := E_CronField_MONTH_v267.wr W55
    obtain ⟨cq266, kq266, q266a, q266b, q266c⟩ := isOf hZ e55 E_CronField_MONTH_v268
    obtain ⟨_, _, ⟨T266, L266, k266, n266⟩, -, X266, ⟨Lc266, hQ266, l266, y266, z266⟩, st266⟩ := X55.virtualBack hx (y := (⟨"com/example/murray_hill/murrayhill/cron/CronField", "min", "()I"⟩ : MethodName)) (z := (⟨"com/example/murray_hill/murrayhill/cron/CronField", "min", "()I"⟩ : MethodName)) hown (mvT hZ (hw _ (List.mem_of_getElem? (i := 17) rfl))) (mvT hZ (hw _ (List.mem_of_getElem? (i := 18) rfl))) (notFace_of_selects (args := #[]) (mvT hZ (hw _ (List.mem_of_getElem? (i := 20) rfl)))) (mvT hZ (hw _ (List.mem_of_getElem? (i := 20) rfl))) (mvT hZ (hw _ (List.mem_of_getElem? (i := 19) rfl))) (by decide) (backOf (W := 0) (rm1 l Z a0 hw [] w_CronField_MONTH (1 : Int32) h55 n0 Z0_v265 F_CronField_MONTH_min_v258) hZ (hw _ (List.mem_of_getElem? (i := 21) rfl)) (hw _ (List.mem_of_getElem? (i := 3) rfl)) (by decide) (by decide)) q266a q266c (g := (mkF m 55 (LS_IIIRRuuuuuu p0 p1 p2 b1 w_CronField_MONTH) [(.ref w_CronField_MONTH)])) rfl (by rw [hml]; rfl) (Steps.refl _) (argsL := []) (rest := []) (lenOf pd___I rfl) rfl (by show 2 * 0 + _ ≤ _; exact Nat.le_of_eq rfl) (hb hby at_55) (fun _ _ => ⟨rfl, e55, (by decide : 1 + 0 ≤ _), (by decide : 6 + 0 ≤ _)⟩)
    dsimp only [Pt.U, Pt.locs, Pt.cells, Pt.slots] at X266 l266 y266 z266 st266 hQ266
    subst l266 y266 z266
    obtain ⟨rfl, N266q, e266⟩ := hQ266
    have N266 := Fr.app N55 N266q
    refine own_go (B := T266.setTop (mkF m 58 (LS_IIIRRuuuuuu p0 p1 p2 b1 w_CronField_MONTH) [(.int (1 : Int32))])) (fun t k => st266.trans k) ?_
    refine own_go (B := T266.setTop (mkF m 62 (LS_IIIRRIuuuuu p0 p1 p2 b1 w_CronField_MONTH (1 : Int32)) [(.ref w_CronField_MONTH)])) (fun t k => ?_) ?_
    · show Steps p.tables e below (T266.setTop (mkF m 58 (LS_IIIRRuuuuuu p0 p1 p2 b1 w_CronField_MONTH) [(.int (1 : Int32))])) _
      refine XS.istore X266.here hx rfl (hb hby at_58) rfl (l' := (LS_IIIRRIuuuuu p0 p1 p2 b1 w_CronField_MONTH (1 : Int32))) rfl ?_
      show Steps p.tables e below (T266.setTop (mkF m 60 (LS_IIIRRIuuuuu p0 p1 p2 b1 w_CronField_MONTH (1 : Int32)) [])) _
      refine XS.aload X266.here hx rfl (hb hby at_60) rfl rfl ?_
      exact k
    have F_CronField_MONTH_max_v269 := F_CronField_MONTH_max.ext E1
    have F_CronField_MONTH_max_v270 := F_CronField_MONTH_max_v269.other W5 (Or.inl ne253)
    have F_CronField_MONTH_max_v271 := F_CronField_MONTH_max_v270.other W11 (Or.inl ne253)
    have F_CronField_MONTH_max_v272 := F_CronField_MONTH_max_v271.other W19 (Or.inl ne253)
    have F_CronField_MONTH_max_v273 := F_CronField_MONTH_max_v272.other W29 (Or.inl ne253)
    have F_CronField_MONTH_max_v274 := F_CronField_MONTH_max_v273.other W41 (Or.inl ne253)
    have F_CronField_MONTH_max_v275 := F_CronField_MONTH_max_v274.other W55 (Or.inl ne253)
    obtain ⟨cq276, kq276, q276a, q276b, q276c⟩ := isOf hZ e266 E_CronField_MONTH_v268
    obtain ⟨_, _, ⟨T276, L276, k276, n276⟩, -, X276, ⟨Lc276, hQ276, l276, y276, z276⟩, st276⟩ := X266.virtualBack hx (y := (⟨"com/example/murray_hill/murrayhill/cron/CronField", "max", "()I"⟩ : MethodName)) (z := (⟨"com/example/murray_hill/murrayhill/cron/CronField", "max", "()I"⟩ : MethodName)) hown (mvT hZ (hw _ (List.mem_of_getElem? (i := 24) rfl))) (mvT hZ (hw _ (List.mem_of_getElem? (i := 25) rfl))) (notFace_of_selects (args := #[]) (mvT hZ (hw _ (List.mem_of_getElem? (i := 27) rfl)))) (mvT hZ (hw _ (List.mem_of_getElem? (i := 27) rfl))) (mvT hZ (hw _ (List.mem_of_getElem? (i := 26) rfl))) (by decide) (backOf (W := 0) (rm2 l Z a0 hw [] w_CronField_MONTH (12 : Int32) h55 n0 Z0_v265 F_CronField_MONTH_max_v275) hZ (hw _ (List.mem_of_getElem? (i := 28) rfl)) (hw _ (List.mem_of_getElem? (i := 3) rfl)) (by decide) (by decide)) q276a q276c (g := (mkF m 62 (LS_IIIRRIuuuuu p0 p1 p2 b1 w_CronField_MONTH (1 : Int32)) [(.ref w_CronField_MONTH)])) rfl (by rw [hml]; rfl) (Steps.refl _) (argsL := []) (rest := []) (lenOf pd___I rfl) rfl (by show 2 * 0 + _ ≤ _; exact Nat.le_of_eq rfl) (hb hby at_62) (fun _ _ => ⟨rfl, e266, (by decide : 1 + 0 ≤ _), (by decide : 6 + 0 ≤ _)⟩)
    dsimp only [Pt.U, Pt.locs, Pt.cells, Pt.slots] at X276 l276 y276 z276 st276 hQ276
    subst l276 y276 z276
    obtain ⟨rfl, N276q, e276⟩ := hQ276
    have N276 := Fr.app N266 N276q
    refine own_go (B := T276.setTop (mkF m 65 (LS_IIIRRIuuuuu p0 p1 p2 b1 w_CronField_MONTH (1 : Int32)) [(.int (12 : Int32))])) (fun t k => st276.trans k) ?_
    refine own_go (B := T276.setTop (mkF m 67 (LS_IIIRRIIuuuu p0 p1 p2 b1 w_CronField_MONTH (1 : Int32) (12 : Int32)) [])) (fun t k => ?_) ?_
    · show Steps p.tables e below (T276.setTop (mkF m 65 (LS_IIIRRIuuuuu p0 p1 p2 b1 w_CronField_MONTH (1 : Int32)) [(.int (12 : Int32))])) _
      refine XS.istore X276.here hx rfl (hb hby at_65) rfl (l' := (LS_IIIRRIIuuuu p0 p1 p2 b1 w_CronField_MONTH (1 : Int32) (12 : Int32))) rfl ?_
      exact k
    refine own_join X276 (ι := Int32) (fun i277 T' => T'.heap = h55) (fun i277 => mkF m 96 (LS_IIIRRIIIuuu p0 p1 p2 b1 w_CronField_MONTH (1 : Int32) (12 : Int32) i277) []) ?_ ?_
    · intro x7 T277 X277 hi277
      have e277 := hi277
      refine own_go (B := T277.setTop (mkF m 100 (LS_IIIRRIIIuuu p0 p1 p2 b1 w_CronField_MONTH (1 : Int32) (12 : Int32) x7) [(.int x7), (.int (1 : Int32))])) (fun t k => ?_) ?_
      · show Steps p.tables e below (T277.setTop (mkF m 96 (LS_IIIRRIIIuuu p0 p1 p2 b1 w_CronField_MONTH (1 : Int32) (12 : Int32) x7) [])) _
        refine XS.iload X277.here hx rfl (hb hby at_96) rfl ?_
        show Steps p.tables e below (T277.setTop (mkF m 98 (LS_IIIRRIIIuuu p0 p1 p2 b1 w_CronField_MONTH (1 : Int32) (12 : Int32) x7) [(.int (1 : Int32))])) _
        refine XS.iload X277.here hx rfl (hb hby at_98) rfl ?_
        exact k
      by_cases hc100_278 : x7 < (1 : Int32)
      · have S_CronField_DAY_OF_WEEK_v279 := S_CronField_DAY_OF_WEEK_v52.wr W55
        refine own_go (B := T277.setTop (mkF m 119 (LS_IIIRRIIIIuu p0 p1 p2 b1 w_CronField_MONTH (1 : Int32) (12 : Int32) x7 (0 : Int32)) [(.ref w_CronField_MONTH)])) (fun t k => ?_) ?_
        · show Steps p.tables e below (T277.setTop (mkF m 100 (LS_IIIRRIIIuuu p0 p1 p2 b1 w_CronField_MONTH (1 : Int32) (12 : Int32) x7) [(.int x7), (.int (1 : Int32))])) _
          refine XS.icmpYes X277.here hx rfl (pc0 := 100) (pc' := 114) rfl (hb hby at_100) rfl (tlt hc100_278).2.2.1 (by decide) (by decide) ?_
          show Steps p.tables e below (T277.setTop (mkF m 114 (LS_IIIRRIIIuuu p0 p1 p2 b1 w_CronField_MONTH (1 : Int32) (12 : Int32) x7) [])) _
          refine XS.iconst X277.here hx rfl (hb hby at_114) ?_
          show Steps p.tables e below (T277.setTop (mkF m 115 (LS_IIIRRIIIuuu p0 p1 p2 b1 w_CronField_MONTH (1 : Int32) (12 : Int32) x7) [(.int (0 : Int32))])) _
          refine XS.istore X277.here hx rfl (hb hby at_115) rfl (l' := (LS_IIIRRIIIIuu p0 p1 p2 b1 w_CronField_MONTH (1 : Int32) (12 : Int32) x7 (0 : Int32))) rfl ?_
          show Steps p.tables e below (T277.setTop (mkF m 117 (LS_IIIRRIIIIuu p0 p1 p2 b1 w_CronField_MONTH (1 : Int32) (12 : Int32) x7 (0 : Int32)) [])) _
          refine XS.aload X277.here hx rfl (hb hby at_117) rfl rfl ?_
          exact k
        obtain ⟨T280, X280, e280, st280⟩ := getS2 X277 hx hZ hown (host := "") (Or.inl (hw _ (List.mem_of_getElem? (i := 14) rfl))) Via.refl e277 S_CronField_DAY_OF_WEEK_v279 (g := (mkF m 119 (LS_IIIRRIIIIuu p0 p1 p2 b1 w_CronField_MONTH (1 : Int32) (12 : Int32) x7 (0 : Int32)) [(.ref w_CronField_MONTH)])) rfl (hb hby at_119)
        refine own_go (B := T280.setTop (mkF m 122 (LS_IIIRRIIIIuu p0 p1 p2 b1 w_CronField_MONTH (1 : Int32) (12 : Int32) x7 (0 : Int32)) [(.ref w_CronField_DAY_OF_WEEK), (.ref w_CronField_MONTH)])) (fun t k => st280 _ k) ?_
        refine own_go (B := T280.setTop (mkF m 148 (LS_IIIRRIIIIIu p0 p1 p2 b1 w_CronField_MONTH (1 : Int32) (12 : Int32) x7 (0 : Int32) x7) [(.int x7), (.ref w_CronField_MONTH)])) (fun t k => ?_) ?_
        · show Steps p.tables e below (T280.setTop (mkF m 122 (LS_IIIRRIIIIuu p0 p1 p2 b1 w_CronField_MONTH (1 : Int32) (12 : Int32) x7 (0 : Int32)) [(.ref w_CronField_DAY_OF_WEEK), (.ref w_CronField_MONTH)])) _
          refine Jvm.RoadKit.acmp (g := (mkF m 122 (LS_IIIRRIIIIuu p0 p1 p2 b1 w_CronField_MONTH (1 : Int32) (12 : Int32) x7 (0 : Int32)) [(.ref w_CronField_DAY_OF_WEEK), (.ref w_CronField_MONTH)])) X280 hx rfl rfl rfl (pc0 := 122) (pc' := 140) (same := false) rfl (hb hby at_122) rfl (decide_eq_false fun q => (Fld.ne F_CronField_MONTH_ordinal F_CronField_DAY_OF_WEEK_ordinal (by decide)) (Value.ref.inj q)) (by decide) (by decide) ?_
          show Steps p.tables e below (T280.setTop (mkF m 140 (LS_IIIRRIIIIuu p0 p1 p2 b1 w_CronField_MONTH (1 : Int32) (12 : Int32) x7 (0 : Int32)) [])) _
          refine XS.iload X280.here hx rfl (hb hby at_140) rfl ?_
          show Steps p.tables e below (T280.setTop (mkF m 142 (LS_IIIRRIIIIuu p0 p1 p2 b1 w_CronField_MONTH (1 : Int32) (12 : Int32) x7 (0 : Int32)) [(.int x7)])) _
          refine XS.istore X280.here hx rfl (hb hby at_142) rfl (l' := (LS_IIIRRIIIIIu p0 p1 p2 b1 w_CronField_MONTH (1 : Int32) (12 : Int32) x7 (0 : Int32) x7)) rfl ?_
          show Steps p.tables e below (T280.setTop (mkF m 144 (LS_IIIRRIIIIIu p0 p1 p2 b1 w_CronField_MONTH (1 : Int32) (12 : Int32) x7 (0 : Int32) x7) [])) _
          refine XS.aload X280.here hx rfl (hb hby at_144) rfl rfl ?_
          show Steps p.tables e below (T280.setTop (mkF m 146 (LS_IIIRRIIIIIu p0 p1 p2 b1 w_CronField_MONTH (1 : Int32) (12 : Int32) x7 (0 : Int32) x7) [(.ref w_CronField_MONTH)])) _
          refine XS.iload X280.here hx rfl (hb hby at_146) rfl ?_
          exact k
        obtain ⟨cq281, kq281, q281a, q281b, q281c⟩ := isOf hZ e280 E_CronField_MONTH_v268
        obtain ⟨_, _, ⟨T281, L281, k281, n281⟩, -, X281, ⟨Lc281, hQ281, l281, y281, z281⟩, st281⟩ := X280.virtualBack hx (y := (⟨"com/example/murray_hill/murrayhill/cron/CronField", "canonical", "(I)I"⟩ : MethodName)) (z := (⟨"com/example/murray_hill/murrayhill/cron/CronField", "canonical", "(I)I"⟩ : MethodName)) hown (mvT hZ (hw _ (List.mem_of_getElem? (i := 31) rfl))) (mvT hZ (hw _ (List.mem_of_getElem? (i := 32) rfl))) (notFace_of_selects (args := #[]) (mvT hZ (hw _ (List.mem_of_getElem? (i := 34) rfl)))) (mvT hZ (hw _ (List.mem_of_getElem? (i := 34) rfl))) (mvT hZ (hw _ (List.mem_of_getElem? (i := 33) rfl))) (by decide) (backOf (W := 0) (rm3 l Z a0 hw [] w_CronField_MONTH x7 w_CronField_DAY_OF_WEEK h55 n0 Z0_v265 S_CronField_DAY_OF_WEEK_v279) hZ (hw _ (List.mem_of_getElem? (i := 35) rfl)) (hw _ (List.mem_of_getElem? (i := 3) rfl)) (by decide) (by decide)) q281a q281c (g := (mkF m 148 (LS_IIIRRIIIIIu p0 p1 p2 b1 w_CronField_MONTH (1 : Int32) (12 : Int32) x7 (0 : Int32) x7) [(.int x7), (.ref w_CronField_MONTH)])) rfl (by rw [hml]; rfl) (Steps.refl _) (argsL := [(.int x7)]) (rest := []) (lenOf pd__I_I rfl) rfl (by show 2 * 0 + _ ≤ _; exact Nat.le_of_eq rfl) (hb hby at_148) (fun _ _ => ⟨rfl, e280, (by decide : 1 + 0 ≤ _), (by decide : 6 + 0 ≤ _)⟩)
        dsimp only [Pt.U, Pt.locs, Pt.cells, Pt.slots] at X281 l281 y281 z281 st281 hQ281
        subst l281 y281 z281
        obtain ⟨rfl, N281q, e281⟩ := hQ281
        have N281 := Fr.app N276 N281q
        refine own_go (B := T281.setTop (mkF m 151 (LS_IIIRRIIIIIu p0 p1 p2 b1 w_CronField_MONTH (1 : Int32) (12 : Int32) x7 (0 : Int32) x7) [(.int (if w_CronField_MONTH = w_CronField_DAY_OF_WEEK then (if x7 = (7 : Int32) then (0 : Int32) else x7) else x7))])) (fun t k => st281.trans k) ?_
        rw [show (if w_CronField_MONTH = w_CronField_DAY_OF_WEEK then (if x7 = (7 : Int32) then (0 : Int32) else x7) else x7) = x7 from if_neg (Fld.ne F_CronField_MONTH_ordinal F_CronField_DAY_OF_WEEK_ordinal (by decide))]
        refine own_go (B := T281.setTop (mkF m 164 (LS_IIIRRIIIIII p0 p1 p2 b1 w_CronField_MONTH (1 : Int32) (12 : Int32) x7 (0 : Int32) x7 x7) [(.int x7), (.ref w_CronField_MONTH)])) (fun t k => ?_) ?_
        · show Steps p.tables e below (T281.setTop (mkF m 151 (LS_IIIRRIIIIIu p0 p1 p2 b1 w_CronField_MONTH (1 : Int32) (12 : Int32) x7 (0 : Int32) x7) [(.int x7)])) _
          refine XS.istore X281.here hx rfl (hb hby at_151) rfl (l' := (LS_IIIRRIIIIII p0 p1 p2 b1 w_CronField_MONTH (1 : Int32) (12 : Int32) x7 (0 : Int32) x7 x7)) rfl ?_
          show Steps p.tables e below (T281.setTop (mkF m 153 (LS_IIIRRIIIIII p0 p1 p2 b1 w_CronField_MONTH (1 : Int32) (12 : Int32) x7 (0 : Int32) x7 x7) [])) _
          refine XS.iload X281.here hx rfl (hb hby at_153) rfl ?_
          show Steps p.tables e below (T281.setTop (mkF m 155 (LS_IIIRRIIIIII p0 p1 p2 b1 w_CronField_MONTH (1 : Int32) (12 : Int32) x7 (0 : Int32) x7 x7) [(.int x7)])) _
          refine XS.iload X281.here hx rfl (hb hby at_155) rfl ?_
          show Steps p.tables e below (T281.setTop (mkF m 157 (LS_IIIRRIIIIII p0 p1 p2 b1 w_CronField_MONTH (1 : Int32) (12 : Int32) x7 (0 : Int32) x7 x7) [(.int x7), (.int x7)])) _
          refine XS.icmpNo X281.here hx rfl (hb hby at_157) rfl (teq (rfl : x7 = x7)).2 ?_
          show Steps p.tables e below (T281.setTop (mkF m 160 (LS_IIIRRIIIIII p0 p1 p2 b1 w_CronField_MONTH (1 : Int32) (12 : Int32) x7 (0 : Int32) x7 x7) [])) _
          refine XS.aload X281.here hx rfl (hb hby at_160) rfl rfl ?_
          show Steps p.tables e below (T281.setTop (mkF m 162 (LS_IIIRRIIIIII p0 p1 p2 b1 w_CronField_MONTH (1 : Int32) (12 : Int32) x7 (0 : Int32) x7 x7) [(.ref w_CronField_MONTH)])) _
          refine XS.iload X281.here hx rfl (hb hby at_162) rfl ?_
          exact k
        obtain ⟨cq282, kq282, q282a, q282b, q282c⟩ := isOf hZ e281 E_CronField_MONTH_v268
        obtain ⟨_, _, ⟨T282, L282, k282, n282⟩, -, X282, ⟨Lc282, hQ282, l282, y282, z282⟩, st282⟩ := X281.virtualBack hx (y := (⟨"com/example/murray_hill/murrayhill/cron/CronField", "canonical", "(I)I"⟩ : MethodName)) (z := (⟨"com/example/murray_hill/murrayhill/cron/CronField", "canonical", "(I)I"⟩ : MethodName)) hown (mvT hZ (hw _ (List.mem_of_getElem? (i := 31) rfl))) (mvT hZ (hw _ (List.mem_of_getElem? (i := 32) rfl))) (notFace_of_selects (args := #[]) (mvT hZ (hw _ (List.mem_of_getElem? (i := 34) rfl)))) (mvT hZ (hw _ (List.mem_of_getElem? (i := 34) rfl))) (mvT hZ (hw _ (List.mem_of_getElem? (i := 33) rfl))) (by decide) (backOf (W := 0) (rm3 l Z a0 hw [] w_CronField_MONTH x7 w_CronField_DAY_OF_WEEK h55 n0 Z0_v265 S_CronField_DAY_OF_WEEK_v279) hZ (hw _ (List.mem_of_getElem? (i := 35) rfl)) (hw _ (List.mem_of_getElem? (i := 3) rfl)) (by decide) (by decide)) q282a q282c (g := (mkF m 164 (LS_IIIRRIIIIII p0 p1 p2 b1 w_CronField_MONTH (1 : Int32) (12 : Int32) x7 (0 : Int32) x7 x7) [(.int x7), (.ref w_CronField_MONTH)])) rfl (by rw [hml]; rfl) (Steps.refl _) (argsL := [(.int x7)]) (rest := []) (lenOf pd__I_I rfl) rfl (by show 2 * 0 + _ ≤ _; exact Nat.le_of_eq rfl) (hb hby at_164) (fun _ _ => ⟨rfl, e281, (by decide : 1 + 0 ≤ _), (by decide : 6 + 0 ≤ _)⟩)
        dsimp only [Pt.U, Pt.locs, Pt.cells, Pt.slots] at X282 l282 y282 z282 st282 hQ282
        subst l282 y282 z282
        obtain ⟨rfl, N282q, e282⟩ := hQ282
        have N282 := Fr.app N281 N282q
        refine own_go (B := T282.setTop (mkF m 167 (LS_IIIRRIIIIII p0 p1 p2 b1 w_CronField_MONTH (1 : Int32) (12 : Int32) x7 (0 : Int32) x7 x7) [(.int (if w_CronField_MONTH = w_CronField_DAY_OF_WEEK then (if x7 = (7 : Int32) then (0 : Int32) else x7) else x7))])) (fun t k => st282.trans k) ?_
        rw [show (if w_CronField_MONTH = w_CronField_DAY_OF_WEEK then (if x7 = (7 : Int32) then (0 : Int32) else x7) else x7) = x7 from if_neg (Fld.ne F_CronField_MONTH_ordinal F_CronField_DAY_OF_WEEK_ordinal (by decide))]
        refine own_go (B := T282.setTop (mkF m 177 (LS_IIIRRIIIIII p0 p1 p2 b1 w_CronField_MONTH (1 : Int32) (12 : Int32) x7 (0 : Int32) x7 x7) [(.int (1 : Int32))])) (fun t k => ?_) ?_
        · show Steps p.tables e below (T282.setTop (mkF m 167 (LS_IIIRRIIIIII p0 p1 p2 b1 w_CronField_MONTH (1 : Int32) (12 : Int32) x7 (0 : Int32) x7 x7) [(.int x7)])) _
          refine XS.iload X282.here hx rfl (hb hby at_167) rfl ?_
          show Steps p.tables e below (T282.setTop (mkF m 169 (LS_IIIRRIIIIII p0 p1 p2 b1 w_CronField_MONTH (1 : Int32) (12 : Int32) x7 (0 : Int32) x7 x7) [(.int x7), (.int x7)])) _
          refine XS.icmpNo X282.here hx rfl (hb hby at_169) rfl (teq (rfl : x7 = x7)).2 ?_
          show Steps p.tables e below (T282.setTop (mkF m 172 (LS_IIIRRIIIIII p0 p1 p2 b1 w_CronField_MONTH (1 : Int32) (12 : Int32) x7 (0 : Int32) x7 x7) [])) _
          refine XS.iconst X282.here hx rfl (hb hby at_172) ?_
          show Steps p.tables e below (T282.setTop (mkF m 173 (LS_IIIRRIIIIII p0 p1 p2 b1 w_CronField_MONTH (1 : Int32) (12 : Int32) x7 (0 : Int32) x7 x7) [(.int (1 : Int32))])) _
          refine XS.goto X282.here hx rfl (pc0 := 173) (pc' := 177) rfl (hb hby at_173) (by decide) (by decide) ?_
          exact k
        obtain ⟨fs, hr, hrun, hended, hW, hsame⟩ := X282.leave (v := some (.int (1 : Int32))) (fun h => by rw [Bd.returns] at h; cases h)
        refine ⟨_, _, ?_, hrun, hended, _, _, rfl, ?_, ⟨_, rfl⟩, hW, hsame.mono (by decide) (by decide)⟩
        · show Steps p.tables e below (T282.setTop (mkF m 177 (LS_IIIRRIIIIII p0 p1 p2 b1 w_CronField_MONTH (1 : Int32) (12 : Int32) x7 (0 : Int32) x7 x7) [(.int (1 : Int32))])) _
          exact retN X282 hx (t := .boolean) Bd.returns (by simp) (hb hby at_177) hr
        · show Q0 Z p0 p1 p2 w_CronField_SECOND w_CronField_MINUTE w_CronField_HOUR w_CronField_DAY_OF_MONTH w_CronField_MONTH w_CronField_DAY_OF_WEEK h0 n0 _ T282.heap _
          rw [e282]
          exact ⟨rfl, N282⟩
      · refine own_go (B := T277.setTop (mkF m 107 (LS_IIIRRIIIuuu p0 p1 p2 b1 w_CronField_MONTH (1 : Int32) (12 : Int32) x7) [(.int (12 : Int32)), (.int x7)])) (fun t k => ?_) ?_
        · show Steps p.tables e below (T277.setTop (mkF m 100 (LS_IIIRRIIIuuu p0 p1 p2 b1 w_CronField_MONTH (1 : Int32) (12 : Int32) x7) [(.int x7), (.int (1 : Int32))])) _
          refine XS.icmpNo X277.here hx rfl (hb hby at_100) rfl (flt hc100_278).2.2.1 ?_
          show Steps p.tables e below (T277.setTop (mkF m 103 (LS_IIIRRIIIuuu p0 p1 p2 b1 w_CronField_MONTH (1 : Int32) (12 : Int32) x7) [])) _
          refine XS.iload X277.here hx rfl (hb hby at_103) rfl ?_
          show Steps p.tables e below (T277.setTop (mkF m 105 (LS_IIIRRIIIuuu p0 p1 p2 b1 w_CronField_MONTH (1 : Int32) (12 : Int32) x7) [(.int x7)])) _
          refine XS.iload X277.here hx rfl (hb hby at_105) rfl ?_
          exact k
        by_cases hc107_283 : (12 : Int32) < x7
        · have S_CronField_DAY_OF_WEEK_v284 := S_CronField_DAY_OF_WEEK_v52.wr W55
          refine own_go (B := T277.setTop (mkF m 119 (LS_IIIRRIIIIuu p0 p1 p2 b1 w_CronField_MONTH (1 : Int32) (12 : Int32) x7 (0 : Int32)) [(.ref w_CronField_MONTH)])) (fun t k => ?_) ?_
          · show Steps p.tables e below (T277.setTop (mkF m 107 (LS_IIIRRIIIuuu p0 p1 p2 b1 w_CronField_MONTH (1 : Int32) (12 : Int32) x7) [(.int (12 : Int32)), (.int x7)])) _
            refine XS.icmpYes X277.here hx rfl (pc0 := 107) (pc' := 114) rfl (hb hby at_107) rfl (tlt hc107_283).2.2.1 (by decide) (by decide) ?_
            show Steps p.tables e below (T277.setTop (mkF m 114 (LS_IIIRRIIIuuu p0 p1 p2 b1 w_CronField_MONTH (1 : Int32) (12 : Int32) x7) [])) _
            refine XS.iconst X277.here hx rfl (hb hby at_114) ?_
            show Steps p.tables e below (T277.setTop (mkF m 115 (LS_IIIRRIIIuuu p0 p1 p2 b1 w_CronField_MONTH (1 : Int32) (12 : Int32) x7) [(.int (0 : Int32))])) _
            refine XS.istore X277.here hx rfl (hb hby at_115) rfl (l' := (LS_IIIRRIIIIuu p0 p1 p2 b1 w_CronField_MONTH (1 : Int32) (12 : Int32) x7 (0 : Int32))) rfl ?_
            show Steps p.tables e below (T277.setTop (mkF m 117 (LS_IIIRRIIIIuu p0 p1 p2 b1 w_CronField_MONTH (1 : Int32) (12 : Int32) x7 (0 : Int32)) [])) _
            refine XS.aload X277.here hx rfl (hb hby at_117) rfl rfl ?_
            exact k
          obtain ⟨T285, X285, e285, st285⟩ := getS2 X277 hx hZ hown (host := "") (Or.inl (hw _ (List.mem_of_getElem? (i := 14) rfl))) Via.refl e277 S_CronField_DAY_OF_WEEK_v284 (g := (mkF m 119 (LS_IIIRRIIIIuu p0 p1 p2 b1 w_CronField_MONTH (1 : Int32) (12 : Int32) x7 (0 : Int32)) [(.ref w_CronField_MONTH)])) rfl (hb hby at_119)
          refine own_go (B := T285.setTop (mkF m 122 (LS_IIIRRIIIIuu p0 p1 p2 b1 w_CronField_MONTH (1 : Int32) (12 : Int32) x7 (0 : Int32)) [(.ref w_CronField_DAY_OF_WEEK), (.ref w_CronField_MONTH)])) (fun t k => st285 _ k) ?_
          refine own_go (B := T285.setTop (mkF m 148 (LS_IIIRRIIIIIu p0 p1 p2 b1 w_CronField_MONTH (1 : Int32) (12 : Int32) x7 (0 : Int32) x7) [(.int x7), (.ref w_CronField_MONTH)])) (fun t k => ?_) ?_
          · show Steps p.tables e below (T285.setTop (mkF m 122 (LS_IIIRRIIIIuu p0 p1 p2 b1 w_CronField_MONTH (1 : Int32) (12 : Int32) x7 (0 : Int32)) [(.ref w_CronField_DAY_OF_WEEK), (.ref w_CronField_MONTH)])) _
            refine Jvm.RoadKit.acmp (g := (mkF m 122 (LS_IIIRRIIIIuu p0 p1 p2 b1 w_CronField_MONTH (1 : Int32) (12 : Int32) x7 (0 : Int32)) [(.ref w_CronField_DAY_OF_WEEK), (.ref w_CronField_MONTH)])) X285 hx rfl rfl rfl (pc0 := 122) (pc' := 140) (same := false) rfl (hb hby at_122) rfl (decide_eq_false fun q => (Fld.ne F_CronField_MONTH_ordinal F_CronField_DAY_OF_WEEK_ordinal (by decide)) (Value.ref.inj q)) (by decide) (by decide) ?_
            show Steps p.tables e below (T285.setTop (mkF m 140 (LS_IIIRRIIIIuu p0 p1 p2 b1 w_CronField_MONTH (1 : Int32) (12 : Int32) x7 (0 : Int32)) [])) _
            refine XS.iload X285.here hx rfl (hb hby at_140) rfl ?_
            show Steps p.tables e below (T285.setTop (mkF m 142 (LS_IIIRRIIIIuu p0 p1 p2 b1 w_CronField_MONTH (1 : Int32) (12 : Int32) x7 (0 : Int32)) [(.int x7)])) _
            refine XS.istore X285.here hx rfl (hb hby at_142) rfl (l' := (LS_IIIRRIIIIIu p0 p1 p2 b1 w_CronField_MONTH (1 : Int32) (12 : Int32) x7 (0 : Int32) x7)) rfl ?_
            show Steps p.tables e below (T285.setTop (mkF m 144 (LS_IIIRRIIIIIu p0 p1 p2 b1 w_CronField_MONTH (1 : Int32) (12 : Int32) x7 (0 : Int32) x7) [])) _
            refine XS.aload X285.here hx rfl (hb hby at_144) rfl rfl ?_
            show Steps p.tables e below (T285.setTop (mkF m 146 (LS_IIIRRIIIIIu p0 p1 p2 b1 w_CronField_MONTH (1 : Int32) (12 : Int32) x7 (0 : Int32) x7) [(.ref w_CronField_MONTH)])) _
            refine XS.iload X285.here hx rfl (hb hby at_146) rfl ?_
            exact k
          obtain ⟨cq286, kq286, q286a, q286b, q286c⟩ := isOf hZ e285 E_CronField_MONTH_v268
          obtain ⟨_, _, ⟨T286, L286, k286, n286⟩, -, X286, ⟨Lc286, hQ286, l286, y286, z286⟩, st286⟩ := X285.virtualBack hx (y := (⟨"com/example/murray_hill/murrayhill/cron/CronField", "canonical", "(I)I"⟩ : MethodName)) (z := (⟨"com/example/murray_hill/murrayhill/cron/CronField", "canonical", "(I)I"⟩ : MethodName)) hown (mvT hZ (hw _ (List.mem_of_getElem? (i := 31) rfl))) (mvT hZ (hw _ (List.mem_of_getElem? (i := 32) rfl))) (notFace_of_selects (args := #[]) (mvT hZ (hw _ (List.mem_of_getElem? (i := 34) rfl)))) (mvT hZ (hw _ (List.mem_of_getElem? (i := 34) rfl))) (mvT hZ (hw _ (List.mem_of_getElem? (i := 33) rfl))) (by decide) (backOf (W := 0) (rm3 l Z a0 hw [] w_CronField_MONTH x7 w_CronField_DAY_OF_WEEK h55 n0 Z0_v265 S_CronField_DAY_OF_WEEK_v284) hZ (hw _ (List.mem_of_getElem? (i := 35) rfl)) (hw _ (List.mem_of_getElem? (i := 3) rfl)) (by decide) (by decide)) q286a q286c (g := (mkF m 148 (LS_IIIRRIIIIIu p0 p1 p2 b1 w_CronField_MONTH (1 : Int32) (12 : Int32) x7 (0 : Int32) x7) [(.int x7), (.ref w_CronField_MONTH)])) rfl (by rw [hml]; rfl) (Steps.refl _) (argsL := [(.int x7)]) (rest := []) (lenOf pd__I_I rfl) rfl (by show 2 * 0 + _ ≤ _; exact Nat.le_of_eq rfl) (hb hby at_148) (fun _ _ => ⟨rfl, e285, (by decide : 1 + 0 ≤ _), (by decide : 6 + 0 ≤ _)⟩)
          dsimp only [Pt.U, Pt.locs, Pt.cells, Pt.slots] at X286 l286 y286 z286 st286 hQ286
          subst l286 y286 z286
          obtain ⟨rfl, N286q, e286⟩ := hQ286
          have N286 := Fr.app N276 N286q
          refine own_go (B := T286.setTop (mkF m 151 (LS_IIIRRIIIIIu p0 p1 p2 b1 w_CronField_MONTH (1 : Int32) (12 : Int32) x7 (0 : Int32) x7) [(.int (if w_CronField_MONTH = w_CronField_DAY_OF_WEEK then (if x7 = (7 : Int32) then (0 : Int32) else x7) else x7))])) (fun t k => st286.trans k) ?_
          rw [show (if w_CronField_MONTH = w_CronField_DAY_OF_WEEK then (if x7 = (7 : Int32) then (0 : Int32) else x7) else x7) = x7 from if_neg (Fld.ne F_CronField_MONTH_ordinal F_CronField_DAY_OF_WEEK_ordinal (by decide))]
          refine own_go (B := T286.setTop (mkF m 164 (LS_IIIRRIIIIII p0 p1 p2 b1 w_CronField_MONTH (1 : Int32) (12 : Int32) x7 (0 : Int32) x7 x7) [(.int x7), (.ref w_CronField_MONTH)])) (fun t k => ?_) ?_
          · show Steps p.tables e below (T286.setTop (mkF m 151 (LS_IIIRRIIIIIu p0 p1 p2 b1 w_CronField_MONTH (1 : Int32) (12 : Int32) x7 (0 : Int32) x7) [(.int x7)])) _
            refine XS.istore X286.here hx rfl (hb hby at_151) rfl (l' := (LS_IIIRRIIIIII p0 p1 p2 b1 w_CronField_MONTH (1 : Int32) (12 : Int32) x7 (0 : Int32) x7 x7)) rfl ?_
            show Steps p.tables e below (T286.setTop (mkF m 153 (LS_IIIRRIIIIII p0 p1 p2 b1 w_CronField_MONTH (1 : Int32) (12 : Int32) x7 (0 : Int32) x7 x7) [])) _
            refine XS.iload X286.here hx rfl (hb hby at_153) rfl ?_
            show Steps p.tables e below (T286.setTop (mkF m 155 (LS_IIIRRIIIIII p0 p1 p2 b1 w_CronField_MONTH (1 : Int32) (12 : Int32) x7 (0 : Int32) x7 x7) [(.int x7)])) _
            refine XS.iload X286.here hx rfl (hb hby at_155) rfl ?_
            show Steps p.tables e below (T286.setTop (mkF m 157 (LS_IIIRRIIIIII p0 p1 p2 b1 w_CronField_MONTH (1 : Int32) (12 : Int32) x7 (0 : Int32) x7 x7) [(.int x7), (.int x7)])) _
            refine XS.icmpNo X286.here hx rfl (hb hby at_157) rfl (teq (rfl : x7 = x7)).2 ?_
            show Steps p.tables e below (T286.setTop (mkF m 160 (LS_IIIRRIIIIII p0 p1 p2 b1 w_CronField_MONTH (1 : Int32) (12 : Int32) x7 (0 : Int32) x7 x7) [])) _
            refine XS.aload X286.here hx rfl (hb hby at_160) rfl rfl ?_
            show Steps p.tables e below (T286.setTop (mkF m 162 (LS_IIIRRIIIIII p0 p1 p2 b1 w_CronField_MONTH (1 : Int32) (12 : Int32) x7 (0 : Int32) x7 x7) [(.ref w_CronField_MONTH)])) _
            refine XS.iload X286.here hx rfl (hb hby at_162) rfl ?_
            exact k
          obtain ⟨cq287, kq287, q287a, q287b, q287c⟩ := isOf hZ e286 E_CronField_MONTH_v268
          obtain ⟨_, _, ⟨T287, L287, k287, n287⟩, -, X287, ⟨Lc287, hQ287, l287, y287, z287⟩, st287⟩ := X286.virtualBack hx (y := (⟨"com/example/murray_hill/murrayhill/cron/CronField", "canonical", "(I)I"⟩ : MethodName)) (z := (⟨"com/example/murray_hill/murrayhill/cron/CronField", "canonical", "(I)I"⟩ : MethodName)) hown (mvT hZ (hw _ (List.mem_of_getElem? (i := 31) rfl))) (mvT hZ (hw _ (List.mem_of_getElem? (i := 32) rfl))) (notFace_of_selects (args := #[]) (mvT hZ (hw _ (List.mem_of_getElem? (i := 34) rfl)))) (mvT hZ (hw _ (List.mem_of_getElem? (i := 34) rfl))) (mvT hZ (hw _ (List.mem_of_getElem? (i := 33) rfl))) (by decide) (backOf (W := 0) (rm3 l Z a0 hw [] w_CronField_MONTH x7 w_CronField_DAY_OF_WEEK h55 n0 Z0_v265 S_CronField_DAY_OF_WEEK_v284) hZ (hw _ (List.mem_of_getElem? (i := 35) rfl)) (hw _ (List.mem_of_getElem? (i := 3) rfl)) (by decide) (by decide)) q287a q287c (g := (mkF m 164 (LS_IIIRRIIIIII p0 p1 p2 b1 w_CronField_MONTH (1 : Int32) (12 : Int32) x7 (0 : Int32) x7 x7) [(.int x7), (.ref w_CronField_MONTH)])) rfl (by rw [hml]; rfl) (Steps.refl _) (argsL := [(.int x7)]) (rest := []) (lenOf pd__I_I rfl) rfl (by show 2 * 0 + _ ≤ _; exact Nat.le_of_eq rfl) (hb hby at_164) (fun _ _ => ⟨rfl, e286, (by decide : 1 + 0 ≤ _), (by decide : 6 + 0 ≤ _)⟩)
          dsimp only [Pt.U, Pt.locs, Pt.cells, Pt.slots] at X287 l287 y287 z287 st287 hQ287
          subst l287 y287 z287
          obtain ⟨rfl, N287q, e287⟩ := hQ287
          have N287 := Fr.app N286 N287q
          refine own_go (B := T287.setTop (mkF m 167 (LS_IIIRRIIIIII p0 p1 p2 b1 w_CronField_MONTH (1 : Int32) (12 : Int32) x7 (0 : Int32) x7 x7) [(.int (if w_CronField_MONTH = w_CronField_DAY_OF_WEEK then (if x7 = (7 : Int32) then (0 : Int32) else x7) else x7))])) (fun t k => st287.trans k) ?_
          rw [show (if w_CronField_MONTH = w_CronField_DAY_OF_WEEK then (if x7 = (7 : Int32) then (0 : Int32) else x7) else x7) = x7 from if_neg (Fld.ne F_CronField_MONTH_ordinal F_CronField_DAY_OF_WEEK_ordinal (by decide))]
          refine own_go (B := T287.setTop (mkF m 177 (LS_IIIRRIIIIII p0 p1 p2 b1 w_CronField_MONTH (1 : Int32) (12 : Int32) x7 (0 : Int32) x7 x7) [(.int (1 : Int32))])) (fun t k => ?_) ?_
          · show Steps p.tables e below (T287.setTop (mkF m 167 (LS_IIIRRIIIIII p0 p1 p2 b1 w_CronField_MONTH (1 : Int32) (12 : Int32) x7 (0 : Int32) x7 x7) [(.int x7)])) _
            refine XS.iload X287.here hx rfl (hb hby at_167) rfl ?_
            show Steps p.tables e below (T287.setTop (mkF m 169 (LS_IIIRRIIIIII p0 p1 p2 b1 w_CronField_MONTH (1 : Int32) (12 : Int32) x7 (0 : Int32) x7 x7) [(.int x7), (.int x7)])) _
            refine XS.icmpNo X287.here hx rfl (hb hby at_169) rfl (teq (rfl : x7 = x7)).2 ?_
            show Steps p.tables e below (T287.setTop (mkF m 172 (LS_IIIRRIIIIII p0 p1 p2 b1 w_CronField_MONTH (1 : Int32) (12 : Int32) x7 (0 : Int32) x7 x7) [])) _
            refine XS.iconst X287.here hx rfl (hb hby at_172) ?_
            show Steps p.tables e below (T287.setTop (mkF m 173 (LS_IIIRRIIIIII p0 p1 p2 b1 w_CronField_MONTH (1 : Int32) (12 : Int32) x7 (0 : Int32) x7 x7) [(.int (1 : Int32))])) _
            refine XS.goto X287.here hx rfl (pc0 := 173) (pc' := 177) rfl (hb hby at_173) (by decide) (by decide) ?_
            exact k
          obtain ⟨fs, hr, hrun, hended, hW, hsame⟩ := X287.leave (v := some (.int (1 : Int32))) (fun h => by rw [Bd.returns] at h; cases h)
          refine ⟨_, _, ?_, hrun, hended, _, _, rfl, ?_, ⟨_, rfl⟩, hW, hsame.mono (by decide) (by decide)⟩
          · show Steps p.tables e below (T287.setTop (mkF m 177 (LS_IIIRRIIIIII p0 p1 p2 b1 w_CronField_MONTH (1 : Int32) (12 : Int32) x7 (0 : Int32) x7 x7) [(.int (1 : Int32))])) _
            exact retN X287 hx (t := .boolean) Bd.returns (by simp) (hb hby at_177) hr
          · show Q0 Z p0 p1 p2 w_CronField_SECOND w_CronField_MINUTE w_CronField_HOUR w_CronField_DAY_OF_MONTH w_CronField_MONTH w_CronField_DAY_OF_WEEK h0 n0 _ T287.heap _
            rw [e287]
            exact ⟨rfl, N287⟩
        · have S_CronField_DAY_OF_WEEK_v288 := S_CronField_DAY_OF_WEEK_v52.wr W55
          refine own_go (B := T277.setTop (mkF m 119 (LS_IIIRRIIIIuu p0 p1 p2 b1 w_CronField_MONTH (1 : Int32) (12 : Int32) x7 (1 : Int32)) [(.ref w_CronField_MONTH)])) (fun t k => ?_) ?_
          · show Steps p.tables e below (T277.setTop (mkF m 107 (LS_IIIRRIIIuuu p0 p1 p2 b1 w_CronField_MONTH (1 : Int32) (12 : Int32) x7) [(.int (12 : Int32)), (.int x7)])) _
            refine XS.icmpNo X277.here hx rfl (hb hby at_107) rfl (flt hc107_283).2.2.1 ?_
            show Steps p.tables e below (T277.setTop (mkF m 110 (LS_IIIRRIIIuuu p0 p1 p2 b1 w_CronField_MONTH (1 : Int32) (12 : Int32) x7) [])) _
            refine XS.iconst X277.here hx rfl (hb hby at_110) ?_
            show Steps p.tables e below (T277.setTop (mkF m 111 (LS_IIIRRIIIuuu p0 p1 p2 b1 w_CronField_MONTH (1 : Int32) (12 : Int32) x7) [(.int (1 : Int32))])) _
            refine XS.goto X277.here hx rfl (pc0 := 111) (pc' := 115) rfl (hb hby at_111) (by decide) (by decide) ?_
            show Steps p.tables e below (T277.setTop (mkF m 115 (LS_IIIRRIIIuuu p0 p1 p2 b1 w_CronField_MONTH (1 : Int32) (12 : Int32) x7) [(.int (1 : Int32))])) _
            refine XS.istore X277.here hx rfl (hb hby at_115) rfl (l' := (LS_IIIRRIIIIuu p0 p1 p2 b1 w_CronField_MONTH (1 : Int32) (12 : Int32) x7 (1 : Int32))) rfl ?_
            show Steps p.tables e below (T277.setTop (mkF m 117 (LS_IIIRRIIIIuu p0 p1 p2 b1 w_CronField_MONTH (1 : Int32) (12 : Int32) x7 (1 : Int32)) [])) _
            refine XS.aload X277.here hx rfl (hb hby at_117) rfl rfl ?_
            exact k
          obtain ⟨T289, X289, e289, st289⟩ := getS2 X277 hx hZ hown (host := "") (Or.inl (hw _ (List.mem_of_getElem? (i := 14) rfl))) Via.refl e277 S_CronField_DAY_OF_WEEK_v288 (g := (mkF m 119 (LS_IIIRRIIIIuu p0 p1 p2 b1 w_CronField_MONTH (1 : Int32) (12 : Int32) x7 (1 : Int32)) [(.ref w_CronField_MONTH)])) rfl (hb hby at_119)
          refine own_go (B := T289.setTop (mkF m 122 (LS_IIIRRIIIIuu p0 p1 p2 b1 w_CronField_MONTH (1 : Int32) (12 : Int32) x7 (1 : Int32)) [(.ref w_CronField_DAY_OF_WEEK), (.ref w_CronField_MONTH)])) (fun t k => st289 _ k) ?_
          refine own_go (B := T289.setTop (mkF m 148 (LS_IIIRRIIIIIu p0 p1 p2 b1 w_CronField_MONTH (1 : Int32) (12 : Int32) x7 (1 : Int32) x7) [(.int x7), (.ref w_CronField_MONTH)])) (fun t k => ?_) ?_
          · show Steps p.tables e below (T289.setTop (mkF m 122 (LS_IIIRRIIIIuu p0 p1 p2 b1 w_CronField_MONTH (1 : Int32) (12 : Int32) x7 (1 : Int32)) [(.ref w_CronField_DAY_OF_WEEK), (.ref w_CronField_MONTH)])) _
            refine Jvm.RoadKit.acmp (g := (mkF m 122 (LS_IIIRRIIIIuu p0 p1 p2 b1 w_CronField_MONTH (1 : Int32) (12 : Int32) x7 (1 : Int32)) [(.ref w_CronField_DAY_OF_WEEK), (.ref w_CronField_MONTH)])) X289 hx rfl rfl rfl (pc0 := 122) (pc' := 140) (same := false) rfl (hb hby at_122) rfl (decide_eq_false fun q => (Fld.ne F_CronField_MONTH_ordinal F_CronField_DAY_OF_WEEK_ordinal (by decide)) (Value.ref.inj q)) (by decide) (by decide) ?_
            show Steps p.tables e below (T289.setTop (mkF m 140 (LS_IIIRRIIIIuu p0 p1 p2 b1 w_CronField_MONTH (1 : Int32) (12 : Int32) x7 (1 : Int32)) [])) _
            refine XS.iload X289.here hx rfl (hb hby at_140) rfl ?_
            show Steps p.tables e below (T289.setTop (mkF m 142 (LS_IIIRRIIIIuu p0 p1 p2 b1 w_CronField_MONTH (1 : Int32) (12 : Int32) x7 (1 : Int32)) [(.int x7)])) _
            refine XS.istore X289.here hx rfl (hb hby at_142) rfl (l' := (LS_IIIRRIIIIIu p0 p1 p2 b1 w_CronField_MONTH (1 : Int32) (12 : Int32) x7 (1 : Int32) x7)) rfl ?_
            show Steps p.tables e below (T289.setTop (mkF m 144 (LS_IIIRRIIIIIu p0 p1 p2 b1 w_CronField_MONTH (1 : Int32) (12 : Int32) x7 (1 : Int32) x7) [])) _
            refine XS.aload X289.here hx rfl (hb hby at_144) rfl rfl ?_
            show Steps p.tables e below (T289.setTop (mkF m 146 (LS_IIIRRIIIIIu p0 p1 p2 b1 w_CronField_MONTH (1 : Int32) (12 : Int32) x7 (1 : Int32) x7) [(.ref w_CronField_MONTH)])) _
            refine XS.iload X289.here hx rfl (hb hby at_146) rfl ?_
            exact k
          obtain ⟨cq290, kq290, q290a, q290b, q290c⟩ := isOf hZ e289 E_CronField_MONTH_v268
          obtain ⟨_, _, ⟨T290, L290, k290, n290⟩, -, X290, ⟨Lc290, hQ290, l290, y290, z290⟩, st290⟩ := X289.virtualBack hx (y := (⟨"com/example/murray_hill/murrayhill/cron/CronField", "canonical", "(I)I"⟩ : MethodName)) (z := (⟨"com/example/murray_hill/murrayhill/cron/CronField", "canonical", "(I)I"⟩ : MethodName)) hown (mvT hZ (hw _ (List.mem_of_getElem? (i := 31) rfl))) (mvT hZ (hw _ (List.mem_of_getElem? (i := 32) rfl))) (notFace_of_selects (args := #[]) (mvT hZ (hw _ (List.mem_of_getElem? (i := 34) rfl)))) (mvT hZ (hw _ (List.mem_of_getElem? (i := 34) rfl))) (mvT hZ (hw _ (List.mem_of_getElem? (i := 33) rfl))) (by decide) (backOf (W := 0) (rm3 l Z a0 hw [] w_CronField_MONTH x7 w_CronField_DAY_OF_WEEK h55 n0 Z0_v265 S_CronField_DAY_OF_WEEK_v288) hZ (hw _ (List.mem_of_getElem? (i := 35) rfl)) (hw _ (List.mem_of_getElem? (i := 3) rfl)) (by decide) (by decide)) q290a q290c (g := (mkF m 148 (LS_IIIRRIIIIIu p0 p1 p2 b1 w_CronField_MONTH (1 : Int32) (12 : Int32) x7 (1 : Int32) x7) [(.int x7), (.ref w_CronField_MONTH)])) rfl (by rw [hml]; rfl) (Steps.refl _) (argsL := [(.int x7)]) (rest := []) (lenOf pd__I_I rfl) rfl (by show 2 * 0 + _ ≤ _; exact Nat.le_of_eq rfl) (hb hby at_148) (fun _ _ => ⟨rfl, e289, (by decide : 1 + 0 ≤ _), (by decide : 6 + 0 ≤ _)⟩)
          dsimp only [Pt.U, Pt.locs, Pt.cells, Pt.slots] at X290 l290 y290 z290 st290 hQ290
          subst l290 y290 z290
          obtain ⟨rfl, N290q, e290⟩ := hQ290
          have N290 := Fr.app N276 N290q
          refine own_go (B := T290.setTop (mkF m 151 (LS_IIIRRIIIIIu p0 p1 p2 b1 w_CronField_MONTH (1 : Int32) (12 : Int32) x7 (1 : Int32) x7) [(.int (if w_CronField_MONTH = w_CronField_DAY_OF_WEEK then (if x7 = (7 : Int32) then (0 : Int32) else x7) else x7))])) (fun t k => st290.trans k) ?_
          rw [show (if w_CronField_MONTH = w_CronField_DAY_OF_WEEK then (if x7 = (7 : Int32) then (0 : Int32) else x7) else x7) = x7 from if_neg (Fld.ne F_CronField_MONTH_ordinal F_CronField_DAY_OF_WEEK_ordinal (by decide))]
          refine own_go (B := T290.setTop (mkF m 164 (LS_IIIRRIIIIII p0 p1 p2 b1 w_CronField_MONTH (1 : Int32) (12 : Int32) x7 (1 : Int32) x7 x7) [(.int x7), (.ref w_CronField_MONTH)])) (fun t k => ?_) ?_
          · show Steps p.tables e below (T290.setTop (mkF m 151 (LS_IIIRRIIIIIu p0 p1 p2 b1 w_CronField_MONTH (1 : Int32) (12 : Int32) x7 (1 : Int32) x7) [(.int x7)])) _
            refine XS.istore X290.here hx rfl (hb hby at_151) rfl (l' := (LS_IIIRRIIIIII p0 p1 p2 b1 w_CronField_MONTH (1 : Int32) (12 : Int32) x7 (1 : Int32) x7 x7)) rfl ?_
            show Steps p.tables e below (T290.setTop (mkF m 153 (LS_IIIRRIIIIII p0 p1 p2 b1 w_CronField_MONTH (1 : Int32) (12 : Int32) x7 (1 : Int32) x7 x7) [])) _
            refine XS.iload X290.here hx rfl (hb hby at_153) rfl ?_
            show Steps p.tables e below (T290.setTop (mkF m 155 (LS_IIIRRIIIIII p0 p1 p2 b1 w_CronField_MONTH (1 : Int32) (12 : Int32) x7 (1 : Int32) x7 x7) [(.int x7)])) _
            refine XS.iload X290.here hx rfl (hb hby at_155) rfl ?_
            show Steps p.tables e below (T290.setTop (mkF m 157 (LS_IIIRRIIIIII p0 p1 p2 b1 w_CronField_MONTH (1 : Int32) (12 : Int32) x7 (1 : Int32) x7 x7) [(.int x7), (.int x7)])) _
            refine XS.icmpNo X290.here hx rfl (hb hby at_157) rfl (teq (rfl : x7 = x7)).2 ?_
            show Steps p.tables e below (T290.setTop (mkF m 160 (LS_IIIRRIIIIII p0 p1 p2 b1 w_CronField_MONTH (1 : Int32) (12 : Int32) x7 (1 : Int32) x7 x7) [])) _
            refine XS.aload X290.here hx rfl (hb hby at_160) rfl rfl ?_
            show Steps p.tables e below (T290.setTop (mkF m 162 (LS_IIIRRIIIIII p0 p1 p2 b1 w_CronField_MONTH (1 : Int32) (12 : Int32) x7 (1 : Int32) x7 x7) [(.ref w_CronField_MONTH)])) _
            refine XS.iload X290.here hx rfl (hb hby at_162) rfl ?_
            exact k
          obtain ⟨cq291, kq291, q291a, q291b, q291c⟩ := isOf hZ e290 E_CronField_MONTH_v268
          obtain ⟨_, _, ⟨T291, L291, k291, n291⟩, -, X291, ⟨Lc291, hQ291, l291, y291, z291⟩, st291⟩ := X290.virtualBack hx (y := (⟨"com/example/murray_hill/murrayhill/cron/CronField", "canonical", "(I)I"⟩ : MethodName)) (z := (⟨"com/example/murray_hill/murrayhill/cron/CronField", "canonical", "(I)I"⟩ : MethodName)) hown (mvT hZ (hw _ (List.mem_of_getElem? (i := 31) rfl))) (mvT hZ (hw _ (List.mem_of_getElem? (i := 32) rfl))) (notFace_of_selects (args := #[]) (mvT hZ (hw _ (List.mem_of_getElem? (i := 34) rfl)))) (mvT hZ (hw _ (List.mem_of_getElem? (i := 34) rfl))) (mvT hZ (hw _ (List.mem_of_getElem? (i := 33) rfl))) (by decide) (backOf (W := 0) (rm3 l Z a0 hw [] w_CronField_MONTH x7 w_CronField_DAY_OF_WEEK h55 n0 Z0_v265 S_CronField_DAY_OF_WEEK_v288) hZ (hw _ (List.mem_of_getElem? (i := 35) rfl)) (hw _ (List.mem_of_getElem? (i := 3) rfl)) (by decide) (by decide)) q291a q291c (g := (mkF m 164 (LS_IIIRRIIIIII p0 p1 p2 b1 w_CronField_MONTH (1 : Int32) (12 : Int32) x7 (1 : Int32) x7 x7) [(.int x7), (.ref w_CronField_MONTH)])) rfl (by rw [hml]; rfl) (Steps.refl _) (argsL := [(.int x7)]) (rest := []) (lenOf pd__I_I rfl) rfl (by show 2 * 0 + _ ≤ _; exact Nat.le_of_eq rfl) (hb hby at_164) (fun _ _ => ⟨rfl, e290, (by decide : 1 + 0 ≤ _), (by decide : 6 + 0 ≤ _)⟩)
          dsimp only [Pt.U, Pt.locs, Pt.cells, Pt.slots] at X291 l291 y291 z291 st291 hQ291
          subst l291 y291 z291
          obtain ⟨rfl, N291q, e291⟩ := hQ291
          have N291 := Fr.app N290 N291q
          refine own_go (B := T291.setTop (mkF m 167 (LS_IIIRRIIIIII p0 p1 p2 b1 w_CronField_MONTH (1 : Int32) (12 : Int32) x7 (1 : Int32) x7 x7) [(.int (if w_CronField_MONTH = w_CronField_DAY_OF_WEEK then (if x7 = (7 : Int32) then (0 : Int32) else x7) else x7))])) (fun t k => st291.trans k) ?_
          rw [show (if w_CronField_MONTH = w_CronField_DAY_OF_WEEK then (if x7 = (7 : Int32) then (0 : Int32) else x7) else x7) = x7 from if_neg (Fld.ne F_CronField_MONTH_ordinal F_CronField_DAY_OF_WEEK_ordinal (by decide))]
          refine own_go (B := T291.setTop (mkF m 177 (LS_IIIRRIIIIII p0 p1 p2 b1 w_CronField_MONTH (1 : Int32) (12 : Int32) x7 (1 : Int32) x7 x7) [(.int (1 : Int32))])) (fun t k => ?_) ?_
          · show Steps p.tables e below (T291.setTop (mkF m 167 (LS_IIIRRIIIIII p0 p1 p2 b1 w_CronField_MONTH (1 : Int32) (12 : Int32) x7 (1 : Int32) x7 x7) [(.int x7)])) _
            refine XS.iload X291.here hx rfl (hb hby at_167) rfl ?_
            show Steps p.tables e below (T291.setTop (mkF m 169 (LS_IIIRRIIIIII p0 p1 p2 b1 w_CronField_MONTH (1 : Int32) (12 : Int32) x7 (1 : Int32) x7 x7) [(.int x7), (.int x7)])) _
            refine XS.icmpNo X291.here hx rfl (hb hby at_169) rfl (teq (rfl : x7 = x7)).2 ?_
            show Steps p.tables e below (T291.setTop (mkF m 172 (LS_IIIRRIIIIII p0 p1 p2 b1 w_CronField_MONTH (1 : Int32) (12 : Int32) x7 (1 : Int32) x7 x7) [])) _
            refine XS.iconst X291.here hx rfl (hb hby at_172) ?_
            show Steps p.tables e below (T291.setTop (mkF m 173 (LS_IIIRRIIIIII p0 p1 p2 b1 w_CronField_MONTH (1 : Int32) (12 : Int32) x7 (1 : Int32) x7 x7) [(.int (1 : Int32))])) _
            refine XS.goto X291.here hx rfl (pc0 := 173) (pc' := 177) rfl (hb hby at_173) (by decide) (by decide) ?_
            exact k
          obtain ⟨fs, hr, hrun, hended, hW, hsame⟩ := X291.leave (v := some (.int (1 : Int32))) (fun h => by rw [Bd.returns] at h; cases h)
          refine ⟨_, _, ?_, hrun, hended, _, _, rfl, ?_, ⟨_, rfl⟩, hW, hsame.mono (by decide) (by decide)⟩
          · show Steps p.tables e below (T291.setTop (mkF m 177 (LS_IIIRRIIIIII p0 p1 p2 b1 w_CronField_MONTH (1 : Int32) (12 : Int32) x7 (1 : Int32) x7 x7) [(.int (1 : Int32))])) _
            exact retN X291 hx (t := .boolean) Bd.returns (by simp) (hb hby at_177) hr
          · show Q0 Z p0 p1 p2 w_CronField_SECOND w_CronField_MINUTE w_CronField_HOUR w_CronField_DAY_OF_MONTH w_CronField_MONTH w_CronField_DAY_OF_WEEK h0 n0 _ T291.heap _
            rw [e291]
            exact ⟨rfl, N291⟩
    · intro rest277
      refine own_go (B := T276.setTop (mkF m 70 (LS_IIIRRIIuuuu p0 p1 p2 b1 w_CronField_MONTH (1 : Int32) (12 : Int32)) [(.int (p2 &&& (1 : Int32)))])) (fun t k => ?_) ?_
      · show Steps p.tables e below (T276.setTop (mkF m 67 (LS_IIIRRIIuuuu p0 p1 p2 b1 w_CronField_MONTH (1 : Int32) (12 : Int32)) [])) _
        refine XS.iloadN X276.here hx rfl (hb hby at_67) rfl ?_
        show Steps p.tables e below (T276.setTop (mkF m 68 (LS_IIIRRIIuuuu p0 p1 p2 b1 w_CronField_MONTH (1 : Int32) (12 : Int32)) [(.int p2)])) _
        refine XS.iconst X276.here hx rfl (hb hby at_68) ?_
        show Steps p.tables e below (T276.setTop (mkF m 69 (LS_IIIRRIIuuuu p0 p1 p2 b1 w_CronField_MONTH (1 : Int32) (12 : Int32)) [(.int (1 : Int32)), (.int p2)])) _
        refine XS.iand X276.here hx rfl (hb hby at_69) rfl ?_
        exact k
      by_cases hc70_292 : (p2 &&& (1 : Int32)) = (0 : Int32)
      · refine own_go (B := T276.setTop (mkF m 96 (LS_IIIRRIIIuuu p0 p1 p2 b1 w_CronField_MONTH (1 : Int32) (12 : Int32) ((1 : Int32) + ((p1 &&& (2147483647 : Int32)) % (((12 : Int32) - (1 : Int32)) + (1 : Int32))))) [])) (fun t k => ?_) ?_
        · show Steps p.tables e below (T276.setTop (mkF m 70 (LS_IIIRRIIuuuu p0 p1 p2 b1 w_CronField_MONTH (1 : Int32) (12 : Int32)) [(.int (p2 &&& (1 : Int32)))])) _
          refine XS.ifYes X276.here hx rfl (pc0 := 70) (pc' := 79) rfl (hb hby at_70) rfl ((if0 _ _).trans (teq hc70_292).1) (by decide) (by decide) ?_
          show Steps p.tables e below (T276.setTop (mkF m 79 (LS_IIIRRIIuuuu p0 p1 p2 b1 w_CronField_MONTH (1 : Int32) (12 : Int32)) [])) _
          refine XS.iload X276.here hx rfl (hb hby at_79) rfl ?_
          show Steps p.tables e below (T276.setTop (mkF m 81 (LS_IIIRRIIuuuu p0 p1 p2 b1 w_CronField_MONTH (1 : Int32) (12 : Int32)) [(.int (1 : Int32))])) _
          refine XS.iloadN X276.here hx rfl (hb hby at_81) rfl ?_
          show Steps p.tables e below (T276.setTop (mkF m 82 (LS_IIIRRIIuuuu p0 p1 p2 b1 w_CronField_MONTH (1 : Int32) (12 : Int32)) [(.int p1), (.int (1 : Int32))])) _
          refine X276.ldcInt hx hown (mvT hZ (hw _ (List.mem_of_getElem? (i := 16) rfl))) (g := (mkF m 82 (LS_IIIRRIIuuuu p0 p1 p2 b1 w_CronField_MONTH (1 : Int32) (12 : Int32)) [(.int p1), (.int (1 : Int32))])) rfl (hb hby at_82) _ ?_
          show Steps p.tables e below (T276.setTop (mkF m 84 (LS_IIIRRIIuuuu p0 p1 p2 b1 w_CronField_MONTH (1 : Int32) (12 : Int32)) [(.int (2147483647 : Int32)), (.int p1), (.int (1 : Int32))])) _
          refine XS.iand X276.here hx rfl (hb hby at_84) rfl ?_
          show Steps p.tables e below (T276.setTop (mkF m 85 (LS_IIIRRIIuuuu p0 p1 p2 b1 w_CronField_MONTH (1 : Int32) (12 : Int32)) [(.int (p1 &&& (2147483647 : Int32))), (.int (1 : Int32))])) _
          refine XS.iload X276.here hx rfl (hb hby at_85) rfl ?_
          show Steps p.tables e below (T276.setTop (mkF m 87 (LS_IIIRRIIuuuu p0 p1 p2 b1 w_CronField_MONTH (1 : Int32) (12 : Int32)) [(.int (12 : Int32)), (.int (p1 &&& (2147483647 : Int32))), (.int (1 : Int32))])) _
          refine XS.iload X276.here hx rfl (hb hby at_87) rfl ?_
          show Steps p.tables e below (T276.setTop (mkF m 89 (LS_IIIRRIIuuuu p0 p1 p2 b1 w_CronField_MONTH (1 : Int32) (12 : Int32)) [(.int (1 : Int32)), (.int (12 : Int32)), (.int (p1 &&& (2147483647 : Int32))), (.int (1 : Int32))])) _
          refine XS.isub X276.here hx rfl (hb hby at_89) rfl ?_
          show Steps p.tables e below (T276.setTop (mkF m 90 (LS_IIIRRIIuuuu p0 p1 p2 b1 w_CronField_MONTH (1 : Int32) (12 : Int32)) [(.int ((12 : Int32) - (1 : Int32))), (.int (p1 &&& (2147483647 : Int32))), (.int (1 : Int32))])) _
          refine XS.iconst X276.here hx rfl (hb hby at_90) ?_
          show Steps p.tables e below (T276.setTop (mkF m 91 (LS_IIIRRIIuuuu p0 p1 p2 b1 w_CronField_MONTH (1 : Int32) (12 : Int32)) [(.int (1 : Int32)), (.int ((12 : Int32) - (1 : Int32))), (.int (p1 &&& (2147483647 : Int32))), (.int (1 : Int32))])) _
          refine XS.iadd X276.here hx rfl (hb hby at_91) rfl ?_
          show Steps p.tables e below (T276.setTop (mkF m 92 (LS_IIIRRIIuuuu p0 p1 p2 b1 w_CronField_MONTH (1 : Int32) (12 : Int32)) [(.int (((12 : Int32) - (1 : Int32)) + (1 : Int32))), (.int (p1 &&& (2147483647 : Int32))), (.int (1 : Int32))])) _
          refine Jvm.RoadKit.iremM X276 hx rfl (hb hby at_92) rfl (by decide) ?_
          show Steps p.tables e below (T276.setTop (mkF m 93 (LS_IIIRRIIuuuu p0 p1 p2 b1 w_CronField_MONTH (1 : Int32) (12 : Int32)) [(.int ((p1 &&& (2147483647 : Int32)) % (((12 : Int32) - (1 : Int32)) + (1 : Int32)))), (.int (1 : Int32))])) _
          refine XS.iadd X276.here hx rfl (hb hby at_93) rfl ?_
          show Steps p.tables e below (T276.setTop (mkF m 94 (LS_IIIRRIIuuuu p0 p1 p2 b1 w_CronField_MONTH (1 : Int32) (12 : Int32)) [(.int ((1 : Int32) + ((p1 &&& (2147483647 : Int32)) % (((12 : Int32) - (1 : Int32)) + (1 : Int32)))))])) _
          refine XS.istore X276.here hx rfl (hb hby at_94) rfl (l' := (LS_IIIRRIIIuuu p0 p1 p2 b1 w_CronField_MONTH (1 : Int32) (12 : Int32) ((1 : Int32) + ((p1 &&& (2147483647 : Int32)) % (((12 : Int32) - (1 : Int32)) + (1 : Int32)))))) rfl ?_
          exact k
        exact rest277 ((1 : Int32) + ((p1 &&& (2147483647 : Int32)) % (((12 : Int32) - (1 : Int32)) + (1 : Int32)))) _ X276 e276
      · refine own_go (B := T276.setTop (mkF m 96 (LS_IIIRRIIIuuu p0 p1 p2 b1 w_CronField_MONTH (1 : Int32) (12 : Int32) p1) [])) (fun t k => ?_) ?_
        · show Steps p.tables e below (T276.setTop (mkF m 70 (LS_IIIRRIIuuuu p0 p1 p2 b1 w_CronField_MONTH (1 : Int32) (12 : Int32)) [(.int (p2 &&& (1 : Int32)))])) _
          refine XS.ifNo X276.here hx rfl (hb hby at_70) rfl ((if0 _ _).trans (feq hc70_292).1) ?_
          show Steps p.tables e below (T276.setTop (mkF m 73 (LS_IIIRRIIuuuu p0 p1 p2 b1 w_CronField_MONTH (1 : Int32) (12 : Int32)) [])) _
          refine XS.iloadN X276.here hx rfl (hb hby at_73) rfl ?_
          show Steps p.tables e below (T276.setTop (mkF m 74 (LS_IIIRRIIuuuu p0 p1 p2 b1 w_CronField_MONTH (1 : Int32) (12 : Int32)) [(.int p1)])) _
          refine XS.istore X276.here hx rfl (hb hby at_74) rfl (l' := (LS_IIIRRIIIuuu p0 p1 p2 b1 w_CronField_MONTH (1 : Int32) (12 : Int32) p1)) rfl ?_
          show Steps p.tables e below (T276.setTop (mkF m 76 (LS_IIIRRIIIuuu p0 p1 p2 b1 w_CronField_MONTH (1 : Int32) (12 : Int32) p1) [])) _
          refine XS.goto X276.here hx rfl (pc0 := 76) (pc' := 96) rfl (hb hby at_76) (by decide) (by decide) ?_
          exact k
        exact rest277 p1 _ X276 e276
  · rw [hk62]
    obtain ⟨cl293, Ar293, qa293, Sa293, Na293, Ha293, Ga293⟩ := V55
    have hin294 : ¬ ((5 : Int32) < 0 ∨ cl293.slots.size ≤ ((5 : Int32)).toNatClampNeg) := inb_of Sa293 ⟨by decide, by decide⟩
    have hat294 : cl293.slots[((5 : Int32)).toNatClampNeg]? = some (.ref w_CronField_DAY_OF_WEEK) := Has.at Ha293 hin294 rfl
    refine own_go (B := T55.setTop (mkF m 55 (LS_IIIRRuuuuuu p0 p1 p2 b1 w_CronField_DAY_OF_WEEK) [(.ref w_CronField_DAY_OF_WEEK)])) (fun t k => ?_) ?_
    · show Steps p.tables e below (T55.setTop (mkF m 50 (LS_IIIRuuuuuuu p0 p1 p2 b1) [(.int (5 : Int32)), (.ref b1)])) _
      refine X55.aaload hx (j := (5 : Int32)) (v := (.ref w_CronField_DAY_OF_WEEK)) (by rw [e55]; exact Ar293.1) (State.isArrayOf_alike hZ.alike Ar293.2.1) rfl Ar293.2.2 hin294 hat294 (g := (mkF m 50 (LS_IIIRuuuuuuu p0 p1 p2 b1) [(.int (5 : Int32)), (.ref b1)])) rfl rfl (hb hby at_50) _ ?_
      show Steps p.tables e below (T55.setTop (mkF m 51 (LS_IIIRuuuuuuu p0 p1 p2 b1) [(.ref w_CronField_DAY_OF_WEEK)])) _
      refine XS.astore X55.here hx rfl (hb hby at_51) rfl rfl (l' := (LS_IIIRRuuuuuu p0 p1 p2 b1 w_CronField_DAY_OF_WEEK)) rfl ?_
      show Steps p.tables e below (T55.setTop (mkF m 53 (LS_IIIRRuuuuuu p0 p1 p2 b1 w_CronField_DAY_OF_WEEK) [])) _
      refine XS.aload X55.here hx rfl (hb hby at_53) rfl rfl ?_
      exact k
    have F_CronField_DAY_OF_WEEK_min_v295 := F_CronField_DAY_OF_WEEK_min.ext E1
    have ne297 : w_CronField_DAY_OF_WEEK ≠ b1 := Nat.ne_of_lt (Nat.lt_of_lt_of_le F_CronField_DAY_OF_WEEK_ordinal.lt (Nat.le_of_eq g1.symm))
    have F_CronField_DAY_OF_WEEK_min_v296 := F_CronField_DAY_OF_WEEK_min_v295.other W5 (Or.inl ne297)
    have F_CronField_DAY_OF_WEEK_min_v298 := F_CronField_DAY_OF_WEEK_min_v296.other W11 (Or.inl ne297)
    have F_CronField_DAY_OF_WEEK_min_v299 := F_CronField_DAY_OF_WEEK_min_v298.other W19 (Or.inl ne297)
    have F_CronField_DAY_OF_WEEK_min_v300 := F_CronField_DAY_OF_WEEK_min_v299.other W29 (Or.inl ne297)
    have F_CronField_DAY_OF_WEEK_min_v301 := F_CronField_DAY_OF_WEEK_min_v300.other W41 (Or.inl ne297)
    have F_CronField_DAY_OF_WEEK_min_v302 := F_CronField_DAY_OF_WEEK_min_v301.other W55 (Or.inl ne297)
    have Z0_v303 := Nat.le_trans Z0 E1.1
    have Z0_v304 := Nat.le_trans Z0_v303 (Nat.le_of_eq W5.size.symm)
    have Z0_v305 := Nat.le_trans Z0_v304 (Nat.le_of_eq W11.size.symm)
    have Z0_v306 := Nat.le_trans Z0_v305 (Nat.le_of_eq W19.size.symm)
    have Z0_v307 := Nat.le_trans Z0_v306 (Nat.le_of_eq W29.size.symm)
    have Z0_v308 := Nat.le_trans Z0_v307 (Nat.le_of_eq W41.size.symm)
    have Z0_v309 := Nat.le_trans Z0_v308 (Nat.le_of_eq W55.size.symm)
    have E_CronField_DAY_OF_WEEK_v311 := E_CronField_DAY_OF_WEEK_v61.wr W55
    obtain ⟨cq310, kq310, q310a, q310b, q310c⟩ := isOf hZ e55 E_CronField_DAY_OF_WEEK_v311
    obtain ⟨_, _, ⟨T310, L310, k310, n310⟩, -, X310, ⟨Lc310, hQ310, l310, y310, z310⟩, st310⟩ := X55.virtualBack hx (y := (⟨"com/example/murray_hill/murrayhill/cron/CronField", "min", "()I"⟩ : MethodName)) (z := (⟨"com/example/murray_hill/murrayhill/cron/CronField", "min", "()I"⟩ : MethodName)) hown (mvT hZ (hw _ (List.mem_of_getElem? (i := 17) rfl))) (mvT hZ (hw _ (List.mem_of_getElem? (i := 18) rfl))) (notFace_of_selects (args := #[]) (mvT hZ (hw _ (List.mem_of_getElem? (i := 20) rfl)))) (mvT hZ (hw _ (List.mem_of_getElem? (i := 20) rfl))) (mvT hZ (hw _ (List.mem_of_getElem? (i := 19) rfl))) (by decide) (backOf (W := 0) (rm1 l Z a0 hw [] w_CronField_DAY_OF_WEEK (0 : Int32) h55 n0 Z0_v309 F_CronField_DAY_OF_WEEK_min_v302) hZ (hw _ (List.mem_of_getElem? (i := 21) rfl)) (hw _ (List.mem_of_getElem? (i := 3) rfl)) (by decide) (by decide)) q310a q310c (g := (mkF m 55 (LS_IIIRRuuuuuu p0 p1 p2 b1 w_CronField_DAY_OF_WEEK) [(.ref w_CronField_DAY_OF_WEEK)])) rfl (by rw [hml]; rfl) (Steps.refl _) (argsL := []) (rest := []) (lenOf pd___I rfl) rfl (by show 2 * 0 + _ ≤ _; exact Nat.le_of_eq rfl) (hb hby at_55) (fun _ _ => ⟨rfl, e55, (by decide : 1 + 0 ≤ _), (by decide : 6 + 0 ≤ _)⟩)
    dsimp only [Pt.U, Pt.locs, Pt.cells, Pt.slots] at X310 l310 y310 z310 st310 hQ310
    subst l310 y310 z310
    obtain ⟨rfl, N310q, e310⟩ := hQ310
    have N310 := Fr.app N55 N310q
    refine own_go (B := T310.setTop (mkF m 58 (LS_IIIRRuuuuuu p0 p1 p2 b1 w_CronField_DAY_OF_WEEK) [(.int (0 : Int32))])) (fun t k => st310.trans k) ?_
    refine own_go (B := T310.setTop (mkF m 62 (LS_IIIRRIuuuuu p0 p1 p2 b1 w_CronField_DAY_OF_WEEK (0 : Int32)) [(.ref w_CronField_DAY_OF_WEEK)])) (fun t k => ?_) ?_
    · show Steps p.tables e below (T310.setTop (mkF m 58 (LS_IIIRRuuuuuu p0 p1 p2 b1 w_CronField_DAY_OF_WEEK) [(.int (0 : Int32))])) _
      refine XS.istore X310.here hx rfl (hb hby at_58) rfl (l' := (LS_IIIRRIuuuuu p0 p1 p2 b1 w_CronField_DAY_OF_WEEK (0 : Int32))) rfl ?_
      show Steps p.tables e below (T310.setTop (mkF m 60 (LS_IIIRRIuuuuu p0 p1 p2 b1 w_CronField_DAY_OF_WEEK (0 : Int32)) [])) _
      refine XS.aload X310.here hx rfl (hb hby at_60) rfl rfl ?_
      exact k
    have F_CronField_DAY_OF_WEEK_max_v312 := F_CronField_DAY_OF_WEEK_max.ext E1
    have F_CronField_DAY_OF_WEEK_max_v313 := F_CronField_DAY_OF_WEEK_max_v312.other W5 (Or.inl ne297)
    have F_CronField_DAY_OF_WEEK_max_v314 := F_CronField_DAY_OF_WEEK_max_v313.other W11 (Or.inl ne297)
    have F_CronField_DAY_OF_WEEK_max_v315 := F_CronField_DAY_OF_WEEK_max_v314.other W19 (Or.inl ne297)
    have F_CronField_DAY_OF_WEEK_max_v316 := F_CronField_DAY_OF_WEEK_max_v315.other W29 (Or.inl ne297)
    have F_CronField_DAY_OF_WEEK_max_v317 := F_CronField_DAY_OF_WEEK_max_v316.other W41 (Or.inl ne297)
    have F_CronField_DAY_OF_WEEK_max_v318 := F_CronField_DAY_OF_WEEK_max_v317.other W55 (Or.inl ne297)
    obtain ⟨cq319, kq319, q319a, q319b, q319c⟩ := isOf hZ e310 E_CronField_DAY_OF_WEEK_v311
    obtain ⟨_, _, ⟨T319, L319, k319, n319⟩, -, X319, ⟨Lc319, hQ319, l319, y319, z319⟩, st319⟩ := X310.virtualBack hx (y := (⟨"com/example/murray_hill/murrayhill/cron/CronField", "max", "()I"⟩ : MethodName)) (z := (⟨"com/example/murray_hill/murrayhill/cron/CronField", "max", "()I"⟩ : MethodName)) hown (mvT hZ (hw _ (List.mem_of_getElem? (i := 24) rfl))) (mvT hZ (hw _ (List.mem_of_getElem? (i := 25) rfl))) (notFace_of_selects (args := #[]) (mvT hZ (hw _ (List.mem_of_getElem? (i := 27) rfl)))) (mvT hZ (hw _ (List.mem_of_getElem? (i := 27) rfl))) (mvT hZ (hw _ (List.mem_of_getElem? (i := 26) rfl))) (by decide) (backOf (W := 0) (rm2 l Z a0 hw [] w_CronField_DAY_OF_WEEK (7 : Int32) h55 n0 Z0_v309 F_CronField_DAY_OF_WEEK_max_v318) hZ (hw _ (List.mem_of_getElem? (i := 28) rfl)) (hw _ (List.mem_of_getElem? (i := 3) rfl)) (by decide) (by decide)) q319a q319c (g := (mkF m 62 (LS_IIIRRIuuuuu p0 p1 p2 b1 w_CronField_DAY_OF_WEEK (0 : Int32)) [(.ref w_CronField_DAY_OF_WEEK)])) rfl (by rw [hml]; rfl) (Steps.refl _) (argsL := []) (rest := []) (lenOf pd___I rfl) rfl (by show 2 * 0 + _ ≤ _; exact Nat.le_of_eq rfl) (hb hby at_62) (fun _ _ => ⟨rfl, e310, (by decide : 1 + 0 ≤ _), (by decide : 6 + 0 ≤ _)⟩)
    dsimp only [Pt.U, Pt.locs, Pt.cells, Pt.slots] at X319 l319 y319 z319 st319 hQ319
    subst l319 y319 z319
    obtain ⟨rfl, N319q, e319⟩ := hQ319
    have N319 := Fr.app N310 N319q
    refine own_go (B := T319.setTop (mkF m 65 (LS_IIIRRIuuuuu p0 p1 p2 b1 w_CronField_DAY_OF_WEEK (0 : Int32)) [(.int (7 : Int32))])) (fun t k => st319.trans k) ?_
    refine own_go (B := T319.setTop (mkF m 67 (LS_IIIRRIIuuuu p0 p1 p2 b1 w_CronField_DAY_OF_WEEK (0 : Int32) (7 : Int32)) [])) (fun t k => ?_) ?_
    · show Steps p.tables e below (T319.setTop (mkF m 65 (LS_IIIRRIuuuuu p0 p1 p2 b1 w_CronField_DAY_OF_WEEK (0 : Int32)) [(.int (7 : Int32))])) _
      refine XS.istore X319.here hx rfl (hb hby at_65) rfl (l' := (LS_IIIRRIIuuuu p0 p1 p2 b1 w_CronField_DAY_OF_WEEK (0 : Int32) (7 : Int32))) rfl ?_
      exact k
    refine own_join X319 (ι := Int32) (fun i320 T' => T'.heap = h55) (fun i320 => mkF m 96 (LS_IIIRRIIIuuu p0 p1 p2 b1 w_CronField_DAY_OF_WEEK (0 : Int32) (7 : Int32) i320) []) ?_ ?_
    · intro x7 T320 X320 hi320
      have e320 := hi320
      refine own_go (B := T320.setTop (mkF m 100 (LS_IIIRRIIIuuu p0 p1 p2 b1 w_CronField_DAY_OF_WEEK (0 : Int32) (7 : Int32) x7) [(.int x7), (.int (0 : Int32))])) (fun t k => ?_) ?_
      · show Steps p.tables e below (T320.setTop (mkF m 96 (LS_IIIRRIIIuuu p0 p1 p2 b1 w_CronField_DAY_OF_WEEK (0 : Int32) (7 : Int32) x7) [])) _
        refine XS.iload X320.here hx rfl (hb hby at_96) rfl ?_
        show Steps p.tables e below (T320.setTop (mkF m 98 (LS_IIIRRIIIuuu p0 p1 p2 b1 w_CronField_DAY_OF_WEEK (0 : Int32) (7 : Int32) x7) [(.int (0 : Int32))])) _
        refine XS.iload X320.here hx rfl (hb hby at_98) rfl ?_
        exact k
      by_cases hc100_321 : x7 < (0 : Int32)
      · have S_CronField_DAY_OF_WEEK_v322 := S_CronField_DAY_OF_WEEK_v52.wr W55
        refine own_go (B := T320.setTop (mkF m 119 (LS_IIIRRIIIIuu p0 p1 p2 b1 w_CronField_DAY_OF_WEEK (0 : Int32) (7 : Int32) x7 (0 : Int32)) [(.ref w_CronField_DAY_OF_WEEK)])) (fun t k => ?_) ?_
        · show Steps p.tables e below (T320.setTop (mkF m 100 (LS_IIIRRIIIuuu p0 p1 p2 b1 w_CronField_DAY_OF_WEEK (0 : Int32) (7 : Int32) x7) [(.int x7), (.int (0 : Int32))])) _
          refine XS.icmpYes X320.here hx rfl (pc0 := 100) (pc' := 114) rfl (hb hby at_100) rfl (tlt hc100_321).2.2.1 (by decide) (by decide) ?_
          show Steps p.tables e below (T320.setTop (mkF m 114 (LS_IIIRRIIIuuu p0 p1 p2 b1 w_CronField_DAY_OF_WEEK (0 : Int32) (7 : Int32) x7) [])) _
          refine XS.iconst X320.here hx rfl (hb hby at_114) ?_
          show Steps p.tables e below (T320.setTop (mkF m 115 (LS_IIIRRIIIuuu p0 p1 p2 b1 w_CronField_DAY_OF_WEEK (0 : Int32) (7 : Int32) x7) [(.int (0 : Int32))])) _
          refine XS.istore X320.here hx rfl (hb hby at_115) rfl (l' := (LS_IIIRRIIIIuu p0 p1 p2 b1 w_CronField_DAY_OF_WEEK (0 : Int32) (7 : Int32) x7 (0 : Int32))) rfl ?_
          show Steps p.tables e below (T320.setTop (mkF m 117 (LS_IIIRRIIIIuu p0 p1 p2 b1 w_CronField_DAY_OF_WEEK (0 : Int32) (7 : Int32) x7 (0 : Int32)) [])) _
          refine XS.aload X320.here hx rfl (hb hby at_117) rfl rfl ?_
          exact k
        obtain ⟨T323, X323, e323, st323⟩ := getS2 X320 hx hZ hown (host := "") (Or.inl (hw _ (List.mem_of_getElem? (i := 14) rfl))) Via.refl e320 S_CronField_DAY_OF_WEEK_v322 (g := (mkF m 119 (LS_IIIRRIIIIuu p0 p1 p2 b1 w_CronField_DAY_OF_WEEK (0 : Int32) (7 : Int32) x7 (0 : Int32)) [(.ref w_CronField_DAY_OF_WEEK)])) rfl (hb hby at_119)
        refine own_go (B := T323.setTop (mkF m 122 (LS_IIIRRIIIIuu p0 p1 p2 b1 w_CronField_DAY_OF_WEEK (0 : Int32) (7 : Int32) x7 (0 : Int32)) [(.ref w_CronField_DAY_OF_WEEK), (.ref w_CronField_DAY_OF_WEEK)])) (fun t k => st323 _ k) ?_
        refine own_go (B := T323.setTop (mkF m 148 (LS_IIIRRIIIIIu p0 p1 p2 b1 w_CronField_DAY_OF_WEEK (0 : Int32) (7 : Int32) x7 (0 : Int32) x7) [(.int x7), (.ref w_CronField_DAY_OF_WEEK)])) (fun t k => ?_) ?_
        · show Steps p.tables e below (T323.setTop (mkF m 122 (LS_IIIRRIIIIuu p0 p1 p2 b1 w_CronField_DAY_OF_WEEK (0 : Int32) (7 : Int32) x7 (0 : Int32)) [(.ref w_CronField_DAY_OF_WEEK), (.ref w_CronField_DAY_OF_WEEK)])) _
          refine Jvm.RoadKit.acmp (g := (mkF m 122 (LS_IIIRRIIIIuu p0 p1 p2 b1 w_CronField_DAY_OF_WEEK (0 : Int32) (7 : Int32) x7 (0 : Int32)) [(.ref w_CronField_DAY_OF_WEEK), (.ref w_CronField_DAY_OF_WEEK)])) X323 hx rfl rfl rfl (pc0 := 122) (pc' := 125) (same := true) rfl (hb hby at_122) rfl (decide_eq_true rfl) (by decide) (by decide) ?_
          show Steps p.tables e below (T323.setTop (mkF m 125 (LS_IIIRRIIIIuu p0 p1 p2 b1 w_CronField_DAY_OF_WEEK (0 : Int32) (7 : Int32) x7 (0 : Int32)) [])) _
          refine XS.iload X323.here hx rfl (hb hby at_125) rfl ?_
          show Steps p.tables e below (T323.setTop (mkF m 127 (LS_IIIRRIIIIuu p0 p1 p2 b1 w_CronField_DAY_OF_WEEK (0 : Int32) (7 : Int32) x7 (0 : Int32)) [(.int (0 : Int32))])) _
          refine XS.ifYes X323.here hx rfl (pc0 := 127) (pc' := 140) rfl (hb hby at_127) rfl ((if0 _ _).trans (teq (by decide : (0 : Int32) = (0 : Int32))).1) (by decide) (by decide) ?_
          show Steps p.tables e below (T323.setTop (mkF m 140 (LS_IIIRRIIIIuu p0 p1 p2 b1 w_CronField_DAY_OF_WEEK (0 : Int32) (7 : Int32) x7 (0 : Int32)) [])) _
          refine XS.iload X323.here hx rfl (hb hby at_140) rfl ?_
          show Steps p.tables e below (T323.setTop (mkF m 142 (LS_IIIRRIIIIuu p0 p1 p2 b1 w_CronField_DAY_OF_WEEK (0 : Int32) (7 : Int32) x7 (0 : Int32)) [(.int x7)])) _
          refine XS.istore X323.here hx rfl (hb hby at_142) rfl (l' := (LS_IIIRRIIIIIu p0 p1 p2 b1 w_CronField_DAY_OF_WEEK (0 : Int32) (7 : Int32) x7 (0 : Int32) x7)) rfl ?_
          show Steps p.tables e below (T323.setTop (mkF m 144 (LS_IIIRRIIIIIu p0 p1 p2 b1 w_CronField_DAY_OF_WEEK (0 : Int32) (7 : Int32) x7 (0 : Int32) x7) [])) _
          refine XS.aload X323.here hx rfl (hb hby at_144) rfl rfl ?_
          show Steps p.tables e below (T323.setTop (mkF m 146 (LS_IIIRRIIIIIu p0 p1 p2 b1 w_CronField_DAY_OF_WEEK (0 : Int32) (7 : Int32) x7 (0 : Int32) x7) [(.ref w_CronField_DAY_OF_WEEK)])) _
          refine XS.iload X323.here hx rfl (hb hby at_146) rfl ?_
          exact k
        obtain ⟨cq324, kq324, q324a, q324b, q324c⟩ := isOf hZ e323 E_CronField_DAY_OF_WEEK_v311
        obtain ⟨_, _, ⟨T324, L324, k324, n324⟩, -, X324, ⟨Lc324, hQ324, l324, y324, z324⟩, st324⟩ := X323.virtualBack hx (y := (⟨"com/example/murray_hill/murrayhill/cron/CronField", "canonical", "(I)I"⟩ : MethodName)) (z := (⟨"com/example/murray_hill/murrayhill/cron/CronField", "canonical", "(I)I"⟩ : MethodName)) hown (mvT hZ (hw _ (List.mem_of_getElem? (i := 31) rfl))) (mvT hZ (hw _ (List.mem_of_getElem? (i := 32) rfl))) (notFace_of_selects (args := #[]) (mvT hZ (hw _ (List.mem_of_getElem? (i := 34) rfl)))) (mvT hZ (hw _ (List.mem_of_getElem? (i := 34) rfl))) (mvT hZ (hw _ (List.mem_of_getElem? (i := 33) rfl))) (by decide) (backOf (W := 0) (rm3 l Z a0 hw [] w_CronField_DAY_OF_WEEK x7 w_CronField_DAY_OF_WEEK h55 n0 Z0_v309 S_CronField_DAY_OF_WEEK_v322) hZ (hw _ (List.mem_of_getElem? (i := 35) rfl)) (hw _ (List.mem_of_getElem? (i := 3) rfl)) (by decide) (by decide)) q324a q324c (g := (mkF m 148 (LS_IIIRRIIIIIu p0 p1 p2 b1 w_CronField_DAY_OF_WEEK (0 : Int32) (7 : Int32) x7 (0 : Int32) x7) [(.int x7), (.ref w_CronField_DAY_OF_WEEK)])) rfl (by rw [hml]; rfl) (Steps.refl _) (argsL := [(.int x7)]) (rest := []) (lenOf pd__I_I rfl) rfl (by show 2 * 0 + _ ≤ _; exact Nat.le_of_eq rfl) (hb hby at_148) (fun _ _ => ⟨rfl, e323, (by decide : 1 + 0 ≤ _), (by decide : 6 + 0 ≤ _)⟩)
        dsimp only [Pt.U, Pt.locs, Pt.cells, Pt.slots] at X324 l324 y324 z324 st324 hQ324
        subst l324 y324 z324
        obtain ⟨rfl, N324q, e324⟩ := hQ324
        have N324 := Fr.app N319 N324q
        refine own_go (B := T324.setTop (mkF m 151 (LS_IIIRRIIIIIu p0 p1 p2 b1 w_CronField_DAY_OF_WEEK (0 : Int32) (7 : Int32) x7 (0 : Int32) x7) [(.int (if w_CronField_DAY_OF_WEEK = w_CronField_DAY_OF_WEEK then (if x7 = (7 : Int32) then (0 : Int32) else x7) else x7))])) (fun t k => st324.trans k) ?_
        rw [show (if w_CronField_DAY_OF_WEEK = w_CronField_DAY_OF_WEEK then (if x7 = (7 : Int32) then (0 : Int32) else x7) else x7) = (if x7 = (7 : Int32) then (0 : Int32) else x7) from if_pos rfl]
        refine own_go (B := T324.setTop (mkF m 164 (LS_IIIRRIIIIII p0 p1 p2 b1 w_CronField_DAY_OF_WEEK (0 : Int32) (7 : Int32) x7 (0 : Int32) x7 (if x7 = (7 : Int32) then (0 : Int32) else x7)) [(.int (if x7 = (7 : Int32) then (0 : Int32) else x7)), (.ref w_CronField_DAY_OF_WEEK)])) (fun t k => ?_) ?_
        · show Steps p.tables e below (T324.setTop (mkF m 151 (LS_IIIRRIIIIIu p0 p1 p2 b1 w_CronField_DAY_OF_WEEK (0 : Int32) (7 : Int32) x7 (0 : Int32) x7) [(.int (if x7 = (7 : Int32) then (0 : Int32) else x7))])) _
          refine XS.istore X324.here hx rfl (hb hby at_151) rfl (l' := (LS_IIIRRIIIIII p0 p1 p2 b1 w_CronField_DAY_OF_WEEK (0 : Int32) (7 : Int32) x7 (0 : Int32) x7 (if x7 = (7 : Int32) then (0 : Int32) else x7))) rfl ?_
          show Steps p.tables e below (T324.setTop (mkF m 153 (LS_IIIRRIIIIII p0 p1 p2 b1 w_CronField_DAY_OF_WEEK (0 : Int32) (7 : Int32) x7 (0 : Int32) x7 (if x7 = (7 : Int32) then (0 : Int32) else x7)) [])) _
          refine XS.iload X324.here hx rfl (hb hby at_153) rfl ?_
          show Steps p.tables e below (T324.setTop (mkF m 155 (LS_IIIRRIIIIII p0 p1 p2 b1 w_CronField_DAY_OF_WEEK (0 : Int32) (7 : Int32) x7 (0 : Int32) x7 (if x7 = (7 : Int32) then (0 : Int32) else x7)) [(.int (if x7 = (7 : Int32) then (0 : Int32) else x7))])) _
          refine XS.iload X324.here hx rfl (hb hby at_155) rfl ?_
          show Steps p.tables e below (T324.setTop (mkF m 157 (LS_IIIRRIIIIII p0 p1 p2 b1 w_CronField_DAY_OF_WEEK (0 : Int32) (7 : Int32) x7 (0 : Int32) x7 (if x7 = (7 : Int32) then (0 : Int32) else x7)) [(.int x7), (.int (if x7 = (7 : Int32) then (0 : Int32) else x7))])) _
          refine XS.icmpNo X324.here hx rfl (hb hby at_157) rfl (teq (own_dow2 hc100_321)).2 ?_
          show Steps p.tables e below (T324.setTop (mkF m 160 (LS_IIIRRIIIIII p0 p1 p2 b1 w_CronField_DAY_OF_WEEK (0 : Int32) (7 : Int32) x7 (0 : Int32) x7 (if x7 = (7 : Int32) then (0 : Int32) else x7)) [])) _
          refine XS.aload X324.here hx rfl (hb hby at_160) rfl rfl ?_
          show Steps p.tables e below (T324.setTop (mkF m 162 (LS_IIIRRIIIIII p0 p1 p2 b1 w_CronField_DAY_OF_WEEK (0 : Int32) (7 : Int32) x7 (0 : Int32) x7 (if x7 = (7 : Int32) then (0 : Int32) else x7)) [(.ref w_CronField_DAY_OF_WEEK)])) _
          refine XS.iload X324.here hx rfl (hb hby at_162) rfl ?_
          exact k
        obtain ⟨cq325, kq325, q325a, q325b, q325c⟩ := isOf hZ e324 E_CronField_DAY_OF_WEEK_v311
        obtain ⟨_, _, ⟨T325, L325, k325, n325⟩, -, X325, ⟨Lc325, hQ325, l325, y325, z325⟩, st325⟩ := X324.virtualBack hx (y := (⟨"com/example/murray_hill/murrayhill/cron/CronField", "canonical", "(I)I"⟩ : MethodName)) (z := (⟨"com/example/murray_hill/murrayhill/cron/CronField", "canonical", "(I)I"⟩ : MethodName)) hown (mvT hZ (hw _ (List.mem_of_getElem? (i := 31) rfl))) (mvT hZ (hw _ (List.mem_of_getElem? (i := 32) rfl))) (notFace_of_selects (args := #[]) (mvT hZ (hw _ (List.mem_of_getElem? (i := 34) rfl)))) (mvT hZ (hw _ (List.mem_of_getElem? (i := 34) rfl))) (mvT hZ (hw _ (List.mem_of_getElem? (i := 33) rfl))) (by decide) (backOf (W := 0) (rm3 l Z a0 hw [] w_CronField_DAY_OF_WEEK (if x7 = (7 : Int32) then (0 : Int32) else x7) w_CronField_DAY_OF_WEEK h55 n0 Z0_v309 S_CronField_DAY_OF_WEEK_v322) hZ (hw _ (List.mem_of_getElem? (i := 35) rfl)) (hw _ (List.mem_of_getElem? (i := 3) rfl)) (by decide) (by decide)) q325a q325c (g := (mkF m 164 (LS_IIIRRIIIIII p0 p1 p2 b1 w_CronField_DAY_OF_WEEK (0 : Int32) (7 : Int32) x7 (0 : Int32) x7 (if x7 = (7 : Int32) then (0 : Int32) else x7)) [(.int (if x7 = (7 : Int32) then (0 : Int32) else x7)), (.ref w_CronField_DAY_OF_WEEK)])) rfl (by rw [hml]; rfl) (Steps.refl _) (argsL := [(.int (if x7 = (7 : Int32) then (0 : Int32) else x7))]) (rest := []) (lenOf pd__I_I rfl) rfl (by show 2 * 0 + _ ≤ _; exact Nat.le_of_eq rfl) (hb hby at_164) (fun _ _ => ⟨rfl, e324, (by decide : 1 + 0 ≤ _), (by decide : 6 + 0 ≤ _)⟩)
        dsimp only [Pt.U, Pt.locs, Pt.cells, Pt.slots] at X325 l325 y325 z325 st325 hQ325
        subst l325 y325 z325
        obtain ⟨rfl, N325q, e325⟩ := hQ325
        have N325 := Fr.app N324 N325q
        refine own_go (B := T325.setTop (mkF m 167 (LS_IIIRRIIIIII p0 p1 p2 b1 w_CronField_DAY_OF_WEEK (0 : Int32) (7 : Int32) x7 (0 : Int32) x7 (if x7 = (7 : Int32) then (0 : Int32) else x7)) [(.int (if w_CronField_DAY_OF_WEEK = w_CronField_DAY_OF_WEEK then (if (if x7 = (7 : Int32) then (0 : Int32) else x7) = (7 : Int32) then (0 : Int32) else (if x7 = (7 : Int32) then (0 : Int32) else x7)) else (if x7 = (7 : Int32) then (0 : Int32) else x7)))])) (fun t k => st325.trans k) ?_
        rw [show (if w_CronField_DAY_OF_WEEK = w_CronField_DAY_OF_WEEK then (if (if x7 = (7 : Int32) then (0 : Int32) else x7) = (7 : Int32) then (0 : Int32) else (if x7 = (7 : Int32) then (0 : Int32) else x7)) else (if x7 = (7 : Int32) then (0 : Int32) else x7)) = (if (if x7 = (7 : Int32) then (0 : Int32) else x7) = (7 : Int32) then (0 : Int32) else (if x7 = (7 : Int32) then (0 : Int32) else x7)) from if_pos rfl]
        rw [own_dow4 x7]
        refine own_go (B := T325.setTop (mkF m 177 (LS_IIIRRIIIIII p0 p1 p2 b1 w_CronField_DAY_OF_WEEK (0 : Int32) (7 : Int32) x7 (0 : Int32) x7 (if x7 = (7 : Int32) then (0 : Int32) else x7)) [(.int (1 : Int32))])) (fun t k => ?_) ?_
        · show Steps p.tables e below (T325.setTop (mkF m 167 (LS_IIIRRIIIIII p0 p1 p2 b1 w_CronField_DAY_OF_WEEK (0 : Int32) (7 : Int32) x7 (0 : Int32) x7 (if x7 = (7 : Int32) then (0 : Int32) else x7)) [(.int (if x7 = (7 : Int32) then (0 : Int32) else x7))])) _
          refine XS.iload X325.here hx rfl (hb hby at_167) rfl ?_
          show Steps p.tables e below (T325.setTop (mkF m 169 (LS_IIIRRIIIIII p0 p1 p2 b1 w_CronField_DAY_OF_WEEK (0 : Int32) (7 : Int32) x7 (0 : Int32) x7 (if x7 = (7 : Int32) then (0 : Int32) else x7)) [(.int (if x7 = (7 : Int32) then (0 : Int32) else x7)), (.int (if x7 = (7 : Int32) then (0 : Int32) else x7))])) _
          refine XS.icmpNo X325.here hx rfl (hb hby at_169) rfl (teq (rfl : (if x7 = (7 : Int32) then (0 : Int32) else x7) = (if x7 = (7 : Int32) then (0 : Int32) else x7))).2 ?_
          show Steps p.tables e below (T325.setTop (mkF m 172 (LS_IIIRRIIIIII p0 p1 p2 b1 w_CronField_DAY_OF_WEEK (0 : Int32) (7 : Int32) x7 (0 : Int32) x7 (if x7 = (7 : Int32) then (0 : Int32) else x7)) [])) _
          refine XS.iconst X325.here hx rfl (hb hby at_172) ?_
          show Steps p.tables e below (T325.setTop (mkF m 173 (LS_IIIRRIIIIII p0 p1 p2 b1 w_CronField_DAY_OF_WEEK (0 : Int32) (7 : Int32) x7 (0 : Int32) x7 (if x7 = (7 : Int32) then (0 : Int32) else x7)) [(.int (1 : Int32))])) _
          refine XS.goto X325.here hx rfl (pc0 := 173) (pc' := 177) rfl (hb hby at_173) (by decide) (by decide) ?_
          exact k
        obtain ⟨fs, hr, hrun, hended, hW, hsame⟩ := X325.leave (v := some (.int (1 : Int32))) (fun h => by rw [Bd.returns] at h; cases h)
        refine ⟨_, _, ?_, hrun, hended, _, _, rfl, ?_, ⟨_, rfl⟩, hW, hsame.mono (by decide) (by decide)⟩
        · show Steps p.tables e below (T325.setTop (mkF m 177 (LS_IIIRRIIIIII p0 p1 p2 b1 w_CronField_DAY_OF_WEEK (0 : Int32) (7 : Int32) x7 (0 : Int32) x7 (if x7 = (7 : Int32) then (0 : Int32) else x7)) [(.int (1 : Int32))])) _
          exact retN X325 hx (t := .boolean) Bd.returns (by simp) (hb hby at_177) hr
        · show Q0 Z p0 p1 p2 w_CronField_SECOND w_CronField_MINUTE w_CronField_HOUR w_CronField_DAY_OF_MONTH w_CronField_MONTH w_CronField_DAY_OF_WEEK h0 n0 _ T325.heap _
          rw [e325]
          exact ⟨rfl, N325⟩
      · refine own_go (B := T320.setTop (mkF m 107 (LS_IIIRRIIIuuu p0 p1 p2 b1 w_CronField_DAY_OF_WEEK (0 : Int32) (7 : Int32) x7) [(.int (7 : Int32)), (.int x7)])) (fun t k => ?_) ?_
        · show Steps p.tables e below (T320.setTop (mkF m 100 (LS_IIIRRIIIuuu p0 p1 p2 b1 w_CronField_DAY_OF_WEEK (0 : Int32) (7 : Int32) x7) [(.int x7), (.int (0 : Int32))])) _
          refine XS.icmpNo X320.here hx rfl (hb hby at_100) rfl (flt hc100_321).2.2.1 ?_
          show Steps p.tables e below (T320.setTop (mkF m 103 (LS_IIIRRIIIuuu p0 p1 p2 b1 w_CronField_DAY_OF_WEEK (0 : Int32) (7 : Int32) x7) [])) _
          refine XS.iload X320.here hx rfl (hb hby at_103) rfl ?_
          show Steps p.tables e below (T320.setTop (mkF m 105 (LS_IIIRRIIIuuu p0 p1 p2 b1 w_CronField_DAY_OF_WEEK (0 : Int32) (7 : Int32) x7) [(.int x7)])) _
          refine XS.iload X320.here hx rfl (hb hby at_105) rfl ?_
          exact k
        by_cases hc107_326 : (7 : Int32) < x7
        · have S_CronField_DAY_OF_WEEK_v327 := S_CronField_DAY_OF_WEEK_v52.wr W55
          refine own_go (B := T320.setTop (mkF m 119 (LS_IIIRRIIIIuu p0 p1 p2 b1 w_CronField_DAY_OF_WEEK (0 : Int32) (7 : Int32) x7 (0 : Int32)) [(.ref w_CronField_DAY_OF_WEEK)])) (fun t k => ?_) ?_
          · show Steps p.tables e below (T320.setTop (mkF m 107 (LS_IIIRRIIIuuu p0 p1 p2 b1 w_CronField_DAY_OF_WEEK (0 : Int32) (7 : Int32) x7) [(.int (7 : Int32)), (.int x7)])) _
            refine XS.icmpYes X320.here hx rfl (pc0 := 107) (pc' := 114) rfl (hb hby at_107) rfl (tlt hc107_326).2.2.1 (by decide) (by decide) ?_
            show Steps p.tables e below (T320.setTop (mkF m 114 (LS_IIIRRIIIuuu p0 p1 p2 b1 w_CronField_DAY_OF_WEEK (0 : Int32) (7 : Int32) x7) [])) _
            refine XS.iconst X320.here hx rfl (hb hby at_114) ?_
            show Steps p.tables e below (T320.setTop (mkF m 115 (LS_IIIRRIIIuuu p0 p1 p2 b1 w_CronField_DAY_OF_WEEK (0 : Int32) (7 : Int32) x7) [(.int (0 : Int32))])) _
            refine XS.istore X320.here hx rfl (hb hby at_115) rfl (l' := (LS_IIIRRIIIIuu p0 p1 p2 b1 w_CronField_DAY_OF_WEEK (0 : Int32) (7 : Int32) x7 (0 : Int32))) rfl ?_
            show Steps p.tables e below (T320.setTop (mkF m 117 (LS_IIIRRIIIIuu p0 p1 p2 b1 w_CronField_DAY_OF_WEEK (0 : Int32) (7 : Int32) x7 (0 : Int32)) [])) _
            refine XS.aload X320.here hx rfl (hb hby at_117) rfl rfl ?_
            exact k
          obtain ⟨T328, X328, e328, st328⟩ := getS2 X320 hx hZ hown (host := "") (Or.inl (hw _ (List.mem_of_getElem? (i := 14) rfl))) Via.refl e320 S_CronField_DAY_OF_WEEK_v327 (g := (mkF m 119 (LS_IIIRRIIIIuu p0 p1 p2 b1 w_CronField_DAY_OF_WEEK (0 : Int32) (7 : Int32) x7 (0 : Int32)) [(.ref w_CronField_DAY_OF_WEEK)])) rfl (hb hby at_119)
          refine own_go (B := T328.setTop (mkF m 122 (LS_IIIRRIIIIuu p0 p1 p2 b1 w_CronField_DAY_OF_WEEK (0 : Int32) (7 : Int32) x7 (0 : Int32)) [(.ref w_CronField_DAY_OF_WEEK), (.ref w_CronField_DAY_OF_WEEK)])) (fun t k => st328 _ k) ?_
          refine own_go (B := T328.setTop (mkF m 148 (LS_IIIRRIIIIIu p0 p1 p2 b1 w_CronField_DAY_OF_WEEK (0 : Int32) (7 : Int32) x7 (0 : Int32) x7) [(.int x7), (.ref w_CronField_DAY_OF_WEEK)])) (fun t k => ?_) ?_
          · show Steps p.tables e below (T328.setTop (mkF m 122 (LS_IIIRRIIIIuu p0 p1 p2 b1 w_CronField_DAY_OF_WEEK (0 : Int32) (7 : Int32) x7 (0 : Int32)) [(.ref w_CronField_DAY_OF_WEEK), (.ref w_CronField_DAY_OF_WEEK)])) _
            refine Jvm.RoadKit.acmp (g := (mkF m 122 (LS_IIIRRIIIIuu p0 p1 p2 b1 w_CronField_DAY_OF_WEEK (0 : Int32) (7 : Int32) x7 (0 : Int32)) [(.ref w_CronField_DAY_OF_WEEK), (.ref w_CronField_DAY_OF_WEEK)])) X328 hx rfl rfl rfl (pc0 := 122) (pc' := 125) (same := true) rfl (hb hby at_122) rfl (decide_eq_true rfl) (by decide) (by decide) ?_
            show Steps p.tables e below (T328.setTop (mkF m 125 (LS_IIIRRIIIIuu p0 p1 p2 b1 w_CronField_DAY_OF_WEEK (0 : Int32) (7 : Int32) x7 (0 : Int32)) [])) _
            refine XS.iload X328.here hx rfl (hb hby at_125) rfl ?_
            show Steps p.tables e below (T328.setTop (mkF m 127 (LS_IIIRRIIIIuu p0 p1 p2 b1 w_CronField_DAY_OF_WEEK (0 : Int32) (7 : Int32) x7 (0 : Int32)) [(.int (0 : Int32))])) _
            refine XS.ifYes X328.here hx rfl (pc0 := 127) (pc' := 140) rfl (hb hby at_127) rfl ((if0 _ _).trans (teq (by decide : (0 : Int32) = (0 : Int32))).1) (by decide) (by decide) ?_
            show Steps p.tables e below (T328.setTop (mkF m 140 (LS_IIIRRIIIIuu p0 p1 p2 b1 w_CronField_DAY_OF_WEEK (0 : Int32) (7 : Int32) x7 (0 : Int32)) [])) _
            refine XS.iload X328.here hx rfl (hb hby at_140) rfl ?_
            show Steps p.tables e below (T328.setTop (mkF m 142 (LS_IIIRRIIIIuu p0 p1 p2 b1 w_CronField_DAY_OF_WEEK (0 : Int32) (7 : Int32) x7 (0 : Int32)) [(.int x7)])) _
            refine XS.istore X328.here hx rfl (hb hby at_142) rfl (l' := (LS_IIIRRIIIIIu p0 p1 p2 b1 w_CronField_DAY_OF_WEEK (0 : Int32) (7 : Int32) x7 (0 : Int32) x7)) rfl ?_
            show Steps p.tables e below (T328.setTop (mkF m 144 (LS_IIIRRIIIIIu p0 p1 p2 b1 w_CronField_DAY_OF_WEEK (0 : Int32) (7 : Int32) x7 (0 : Int32) x7) [])) _
            refine XS.aload X328.here hx rfl (hb hby at_144) rfl rfl ?_
            show Steps p.tables e below (T328.setTop (mkF m 146 (LS_IIIRRIIIIIu p0 p1 p2 b1 w_CronField_DAY_OF_WEEK (0 : Int32) (7 : Int32) x7 (0 : Int32) x7) [(.ref w_CronField_DAY_OF_WEEK)])) _
            refine XS.iload X328.here hx rfl (hb hby at_146) rfl ?_
            exact k
          obtain ⟨cq329, kq329, q329a, q329b, q329c⟩ := isOf hZ e328 E_CronField_DAY_OF_WEEK_v311
          obtain ⟨_, _, ⟨T329, L329, k329, n329⟩, -, X329, ⟨Lc329, hQ329, l329, y329, z329⟩, st329⟩ := X328.virtualBack hx (y := (⟨"com/example/murray_hill/murrayhill/cron/CronField", "canonical", "(I)I"⟩ : MethodName)) (z := (⟨"com/example/murray_hill/murrayhill/cron/CronField", "canonical", "(I)I"⟩ : MethodName)) hown (mvT hZ (hw _ (List.mem_of_getElem? (i := 31) rfl))) (mvT hZ (hw _ (List.mem_of_getElem? (i := 32) rfl))) (notFace_of_selects (args := #[]) (mvT hZ (hw _ (List.mem_of_getElem? (i := 34) rfl)))) (mvT hZ (hw _ (List.mem_of_getElem? (i := 34) rfl))) (mvT hZ (hw _ (List.mem_of_getElem? (i := 33) rfl))) (by decide) (backOf (W := 0) (rm3 l Z a0 hw [] w_CronField_DAY_OF_WEEK x7 w_CronField_DAY_OF_WEEK h55 n0 Z0_v309 S_CronField_DAY_OF_WEEK_v327) hZ (hw _ (List.mem_of_getElem? (i := 35) rfl)) (hw _ (List.mem_of_getElem? (i := 3) rfl)) (by decide) (by decide)) q329a q329c (g := (mkF m 148 (LS_IIIRRIIIIIu p0 p1 p2 b1 w_CronField_DAY_OF_WEEK (0 : Int32) (7 : Int32) x7 (0 : Int32) x7) [(.int x7), (.ref w_CronField_DAY_OF_WEEK)])) rfl (by rw [hml]; rfl) (Steps.refl _) (argsL := [(.int x7)]) (rest := []) (lenOf pd__I_I rfl) rfl (by show 2 * 0 + _ ≤ _; exact Nat.le_of_eq rfl) (hb hby at_148) (fun _ _ => ⟨rfl, e328, (by decide : 1 + 0 ≤ _), (by decide : 6 + 0 ≤ _)⟩)
          dsimp only [Pt.U, Pt.locs, Pt.cells, Pt.slots] at X329 l329 y329 z329 st329 hQ329
          subst l329 y329 z329
          obtain ⟨rfl, N329q, e329⟩ := hQ329
          have N329 := Fr.app N319 N329q
          refine own_go (B := T329.setTop (mkF m 151 (LS_IIIRRIIIIIu p0 p1 p2 b1 w_CronField_DAY_OF_WEEK (0 : Int32) (7 : Int32) x7 (0 : Int32) x7) [(.int (if w_CronField_DAY_OF_WEEK = w_CronField_DAY_OF_WEEK then (if x7 = (7 : Int32) then (0 : Int32) else x7) else x7))])) (fun t k => st329.trans k) ?_
          rw [show (if w_CronField_DAY_OF_WEEK = w_CronField_DAY_OF_WEEK then (if x7 = (7 : Int32) then (0 : Int32) else x7) else x7) = (if x7 = (7 : Int32) then (0 : Int32) else x7) from if_pos rfl]
          refine own_go (B := T329.setTop (mkF m 164 (LS_IIIRRIIIIII p0 p1 p2 b1 w_CronField_DAY_OF_WEEK (0 : Int32) (7 : Int32) x7 (0 : Int32) x7 (if x7 = (7 : Int32) then (0 : Int32) else x7)) [(.int (if x7 = (7 : Int32) then (0 : Int32) else x7)), (.ref w_CronField_DAY_OF_WEEK)])) (fun t k => ?_) ?_
          · show Steps p.tables e below (T329.setTop (mkF m 151 (LS_IIIRRIIIIIu p0 p1 p2 b1 w_CronField_DAY_OF_WEEK (0 : Int32) (7 : Int32) x7 (0 : Int32) x7) [(.int (if x7 = (7 : Int32) then (0 : Int32) else x7))])) _
            refine XS.istore X329.here hx rfl (hb hby at_151) rfl (l' := (LS_IIIRRIIIIII p0 p1 p2 b1 w_CronField_DAY_OF_WEEK (0 : Int32) (7 : Int32) x7 (0 : Int32) x7 (if x7 = (7 : Int32) then (0 : Int32) else x7))) rfl ?_
            show Steps p.tables e below (T329.setTop (mkF m 153 (LS_IIIRRIIIIII p0 p1 p2 b1 w_CronField_DAY_OF_WEEK (0 : Int32) (7 : Int32) x7 (0 : Int32) x7 (if x7 = (7 : Int32) then (0 : Int32) else x7)) [])) _
            refine XS.iload X329.here hx rfl (hb hby at_153) rfl ?_
            show Steps p.tables e below (T329.setTop (mkF m 155 (LS_IIIRRIIIIII p0 p1 p2 b1 w_CronField_DAY_OF_WEEK (0 : Int32) (7 : Int32) x7 (0 : Int32) x7 (if x7 = (7 : Int32) then (0 : Int32) else x7)) [(.int (if x7 = (7 : Int32) then (0 : Int32) else x7))])) _
            refine XS.iload X329.here hx rfl (hb hby at_155) rfl ?_
            show Steps p.tables e below (T329.setTop (mkF m 157 (LS_IIIRRIIIIII p0 p1 p2 b1 w_CronField_DAY_OF_WEEK (0 : Int32) (7 : Int32) x7 (0 : Int32) x7 (if x7 = (7 : Int32) then (0 : Int32) else x7)) [(.int x7), (.int (if x7 = (7 : Int32) then (0 : Int32) else x7))])) _
            refine XS.icmpNo X329.here hx rfl (hb hby at_157) rfl (teq (own_dow3 hc107_326)).2 ?_
            show Steps p.tables e below (T329.setTop (mkF m 160 (LS_IIIRRIIIIII p0 p1 p2 b1 w_CronField_DAY_OF_WEEK (0 : Int32) (7 : Int32) x7 (0 : Int32) x7 (if x7 = (7 : Int32) then (0 : Int32) else x7)) [])) _
            refine XS.aload X329.here hx rfl (hb hby at_160) rfl rfl ?_
            show Steps p.tables e below (T329.setTop (mkF m 162 (LS_IIIRRIIIIII p0 p1 p2 b1 w_CronField_DAY_OF_WEEK (0 : Int32) (7 : Int32) x7 (0 : Int32) x7 (if x7 = (7 : Int32) then (0 : Int32) else x7)) [(.ref w_CronField_DAY_OF_WEEK)])) _
            refine XS.iload X329.here hx rfl (hb hby at_162) rfl ?_
            exact k
          obtain ⟨cq330, kq330, q330a, q330b, q330c⟩ := isOf hZ e329 E_CronField_DAY_OF_WEEK_v311
          obtain ⟨_, _, ⟨T330, L330, k330, n330⟩, -, X330, ⟨Lc330, hQ330, l330, y330, z330⟩, st330⟩ := X329.virtualBack hx (y := (⟨"com/example/murray_hill/murrayhill/cron/CronField", "canonical", "(I)I"⟩ : MethodName)) (z := (⟨"com/example/murray_hill/murrayhill/cron/CronField", "canonical", "(I)I"⟩ : MethodName)) hown (mvT hZ (hw _ (List.mem_of_getElem? (i := 31) rfl))) (mvT hZ (hw _ (List.mem_of_getElem? (i := 32) rfl))) (notFace_of_selects (args := #[]) (mvT hZ (hw _ (List.mem_of_getElem? (i := 34) rfl)))) (mvT hZ (hw _ (List.mem_of_getElem? (i := 34) rfl))) (mvT hZ (hw _ (List.mem_of_getElem? (i := 33) rfl))) (by decide) (backOf (W := 0) (rm3 l Z a0 hw [] w_CronField_DAY_OF_WEEK (if x7 = (7 : Int32) then (0 : Int32) else x7) w_CronField_DAY_OF_WEEK h55 n0 Z0_v309 S_CronField_DAY_OF_WEEK_v327) hZ (hw _ (List.mem_of_getElem? (i := 35) rfl)) (hw _ (List.mem_of_getElem? (i := 3) rfl)) (by decide) (by decide)) q330a q330c (g := (mkF m 164 (LS_IIIRRIIIIII p0 p1 p2 b1 w_CronField_DAY_OF_WEEK (0 : Int32) (7 : Int32) x7 (0 : Int32) x7 (if x7 = (7 : Int32) then (0 : Int32) else x7)) [(.int (if x7 = (7 : Int32) then (0 : Int32) else x7)), (.ref w_CronField_DAY_OF_WEEK)])) rfl (by rw [hml]; rfl) (Steps.refl _) (argsL := [(.int (if x7 = (7 : Int32) then (0 : Int32) else x7))]) (rest := []) (lenOf pd__I_I rfl) rfl (by show 2 * 0 + _ ≤ _; exact Nat.le_of_eq rfl) (hb hby at_164) (fun _ _ => ⟨rfl, e329, (by decide : 1 + 0 ≤ _), (by decide : 6 + 0 ≤ _)⟩)
          dsimp only [Pt.U, Pt.locs, Pt.cells, Pt.slots] at X330 l330 y330 z330 st330 hQ330
          subst l330 y330 z330
          obtain ⟨rfl, N330q, e330⟩ := hQ330
          have N330 := Fr.app N329 N330q
          refine own_go (B := T330.setTop (mkF m 167 (LS_IIIRRIIIIII p0 p1 p2 b1 w_CronField_DAY_OF_WEEK (0 : Int32) (7 : Int32) x7 (0 : Int32) x7 (if x7 = (7 : Int32) then (0 : Int32) else x7)) [(.int (if w_CronField_DAY_OF_WEEK = w_CronField_DAY_OF_WEEK then (if (if x7 = (7 : Int32) then (0 : Int32) else x7) = (7 : Int32) then (0 : Int32) else (if x7 = (7 : Int32) then (0 : Int32) else x7)) else (if x7 = (7 : Int32) then (0 : Int32) else x7)))])) (fun t k => st330.trans k) ?_
          rw [show (if w_CronField_DAY_OF_WEEK = w_CronField_DAY_OF_WEEK then (if (if x7 = (7 : Int32) then (0 : Int32) else x7) = (7 : Int32) then (0 : Int32) else (if x7 = (7 : Int32) then (0 : Int32) else x7)) else (if x7 = (7 : Int32) then (0 : Int32) else x7)) = (if (if x7 = (7 : Int32) then (0 : Int32) else x7) = (7 : Int32) then (0 : Int32) else (if x7 = (7 : Int32) then (0 : Int32) else x7)) from if_pos rfl]
          rw [own_dow4 x7]
          refine own_go (B := T330.setTop (mkF m 177 (LS_IIIRRIIIIII p0 p1 p2 b1 w_CronField_DAY_OF_WEEK (0 : Int32) (7 : Int32) x7 (0 : Int32) x7 (if x7 = (7 : Int32) then (0 : Int32) else x7)) [(.int (1 : Int32))])) (fun t k => ?_) ?_
          · show Steps p.tables e below (T330.setTop (mkF m 167 (LS_IIIRRIIIIII p0 p1 p2 b1 w_CronField_DAY_OF_WEEK (0 : Int32) (7 : Int32) x7 (0 : Int32) x7 (if x7 = (7 : Int32) then (0 : Int32) else x7)) [(.int (if x7 = (7 : Int32) then (0 : Int32) else x7))])) _
            refine XS.iload X330.here hx rfl (hb hby at_167) rfl ?_
            show Steps p.tables e below (T330.setTop (mkF m 169 (LS_IIIRRIIIIII p0 p1 p2 b1 w_CronField_DAY_OF_WEEK (0 : Int32) (7 : Int32) x7 (0 : Int32) x7 (if x7 = (7 : Int32) then (0 : Int32) else x7)) [(.int (if x7 = (7 : Int32) then (0 : Int32) else x7)), (.int (if x7 = (7 : Int32) then (0 : Int32) else x7))])) _
            refine XS.icmpNo X330.here hx rfl (hb hby at_169) rfl (teq (rfl : (if x7 = (7 : Int32) then (0 : Int32) else x7) = (if x7 = (7 : Int32) then (0 : Int32) else x7))).2 ?_
            show Steps p.tables e below (T330.setTop (mkF m 172 (LS_IIIRRIIIIII p0 p1 p2 b1 w_CronField_DAY_OF_WEEK (0 : Int32) (7 : Int32) x7 (0 : Int32) x7 (if x7 = (7 : Int32) then (0 : Int32) else x7)) [])) _
            refine XS.iconst X330.here hx rfl (hb hby at_172) ?_
            show Steps p.tables e below (T330.setTop (mkF m 173 (LS_IIIRRIIIIII p0 p1 p2 b1 w_CronField_DAY_OF_WEEK (0 : Int32) (7 : Int32) x7 (0 : Int32) x7 (if x7 = (7 : Int32) then (0 : Int32) else x7)) [(.int (1 : Int32))])) _
            refine XS.goto X330.here hx rfl (pc0 := 173) (pc' := 177) rfl (hb hby at_173) (by decide) (by decide) ?_
            exact k
          obtain ⟨fs, hr, hrun, hended, hW, hsame⟩ := X330.leave (v := some (.int (1 : Int32))) (fun h => by rw [Bd.returns] at h; cases h)
          refine ⟨_, _, ?_, hrun, hended, _, _, rfl, ?_, ⟨_, rfl⟩, hW, hsame.mono (by decide) (by decide)⟩
          · show Steps p.tables e below (T330.setTop (mkF m 177 (LS_IIIRRIIIIII p0 p1 p2 b1 w_CronField_DAY_OF_WEEK (0 : Int32) (7 : Int32) x7 (0 : Int32) x7 (if x7 = (7 : Int32) then (0 : Int32) else x7)) [(.int (1 : Int32))])) _
            exact retN X330 hx (t := .boolean) Bd.returns (by simp) (hb hby at_177) hr
          · show Q0 Z p0 p1 p2 w_CronField_SECOND w_CronField_MINUTE w_CronField_HOUR w_CronField_DAY_OF_MONTH w_CronField_MONTH w_CronField_DAY_OF_WEEK h0 n0 _ T330.heap _
            rw [e330]
            exact ⟨rfl, N330⟩
        · have S_CronField_DAY_OF_WEEK_v331 := S_CronField_DAY_OF_WEEK_v52.wr W55
          refine own_go (B := T320.setTop (mkF m 119 (LS_IIIRRIIIIuu p0 p1 p2 b1 w_CronField_DAY_OF_WEEK (0 : Int32) (7 : Int32) x7 (1 : Int32)) [(.ref w_CronField_DAY_OF_WEEK)])) (fun t k => ?_) ?_
          · show Steps p.tables e below (T320.setTop (mkF m 107 (LS_IIIRRIIIuuu p0 p1 p2 b1 w_CronField_DAY_OF_WEEK (0 : Int32) (7 : Int32) x7) [(.int (7 : Int32)), (.int x7)])) _
            refine XS.icmpNo X320.here hx rfl (hb hby at_107) rfl (flt hc107_326).2.2.1 ?_
            show Steps p.tables e below (T320.setTop (mkF m 110 (LS_IIIRRIIIuuu p0 p1 p2 b1 w_CronField_DAY_OF_WEEK (0 : Int32) (7 : Int32) x7) [])) _
            refine XS.iconst X320.here hx rfl (hb hby at_110) ?_
            show Steps p.tables e below (T320.setTop (mkF m 111 (LS_IIIRRIIIuuu p0 p1 p2 b1 w_CronField_DAY_OF_WEEK (0 : Int32) (7 : Int32) x7) [(.int (1 : Int32))])) _
            refine XS.goto X320.here hx rfl (pc0 := 111) (pc' := 115) rfl (hb hby at_111) (by decide) (by decide) ?_
            show Steps p.tables e below (T320.setTop (mkF m 115 (LS_IIIRRIIIuuu p0 p1 p2 b1 w_CronField_DAY_OF_WEEK (0 : Int32) (7 : Int32) x7) [(.int (1 : Int32))])) _
            refine XS.istore X320.here hx rfl (hb hby at_115) rfl (l' := (LS_IIIRRIIIIuu p0 p1 p2 b1 w_CronField_DAY_OF_WEEK (0 : Int32) (7 : Int32) x7 (1 : Int32))) rfl ?_
            show Steps p.tables e below (T320.setTop (mkF m 117 (LS_IIIRRIIIIuu p0 p1 p2 b1 w_CronField_DAY_OF_WEEK (0 : Int32) (7 : Int32) x7 (1 : Int32)) [])) _
            refine XS.aload X320.here hx rfl (hb hby at_117) rfl rfl ?_
            exact k
          obtain ⟨T332, X332, e332, st332⟩ := getS2 X320 hx hZ hown (host := "") (Or.inl (hw _ (List.mem_of_getElem? (i := 14) rfl))) Via.refl e320 S_CronField_DAY_OF_WEEK_v331 (g := (mkF m 119 (LS_IIIRRIIIIuu p0 p1 p2 b1 w_CronField_DAY_OF_WEEK (0 : Int32) (7 : Int32) x7 (1 : Int32)) [(.ref w_CronField_DAY_OF_WEEK)])) rfl (hb hby at_119)
          refine own_go (B := T332.setTop (mkF m 122 (LS_IIIRRIIIIuu p0 p1 p2 b1 w_CronField_DAY_OF_WEEK (0 : Int32) (7 : Int32) x7 (1 : Int32)) [(.ref w_CronField_DAY_OF_WEEK), (.ref w_CronField_DAY_OF_WEEK)])) (fun t k => st332 _ k) ?_
          refine own_go (B := T332.setTop (mkF m 148 (LS_IIIRRIIIIIu p0 p1 p2 b1 w_CronField_DAY_OF_WEEK (0 : Int32) (7 : Int32) x7 (1 : Int32) (x7 % (7 : Int32))) [(.int x7), (.ref w_CronField_DAY_OF_WEEK)])) (fun t k => ?_) ?_
          · show Steps p.tables e below (T332.setTop (mkF m 122 (LS_IIIRRIIIIuu p0 p1 p2 b1 w_CronField_DAY_OF_WEEK (0 : Int32) (7 : Int32) x7 (1 : Int32)) [(.ref w_CronField_DAY_OF_WEEK), (.ref w_CronField_DAY_OF_WEEK)])) _
            refine Jvm.RoadKit.acmp (g := (mkF m 122 (LS_IIIRRIIIIuu p0 p1 p2 b1 w_CronField_DAY_OF_WEEK (0 : Int32) (7 : Int32) x7 (1 : Int32)) [(.ref w_CronField_DAY_OF_WEEK), (.ref w_CronField_DAY_OF_WEEK)])) X332 hx rfl rfl rfl (pc0 := 122) (pc' := 125) (same := true) rfl (hb hby at_122) rfl (decide_eq_true rfl) (by decide) (by decide) ?_
            show Steps p.tables e below (T332.setTop (mkF m 125 (LS_IIIRRIIIIuu p0 p1 p2 b1 w_CronField_DAY_OF_WEEK (0 : Int32) (7 : Int32) x7 (1 : Int32)) [])) _
            refine XS.iload X332.here hx rfl (hb hby at_125) rfl ?_
            show Steps p.tables e below (T332.setTop (mkF m 127 (LS_IIIRRIIIIuu p0 p1 p2 b1 w_CronField_DAY_OF_WEEK (0 : Int32) (7 : Int32) x7 (1 : Int32)) [(.int (1 : Int32))])) _
            refine XS.ifNo X332.here hx rfl (hb hby at_127) rfl ((if0 _ _).trans (feq (by decide : ¬ ((1 : Int32) = (0 : Int32)))).1) ?_
            show Steps p.tables e below (T332.setTop (mkF m 130 (LS_IIIRRIIIIuu p0 p1 p2 b1 w_CronField_DAY_OF_WEEK (0 : Int32) (7 : Int32) x7 (1 : Int32)) [])) _
            refine XS.iload X332.here hx rfl (hb hby at_130) rfl ?_
            show Steps p.tables e below (T332.setTop (mkF m 132 (LS_IIIRRIIIIuu p0 p1 p2 b1 w_CronField_DAY_OF_WEEK (0 : Int32) (7 : Int32) x7 (1 : Int32)) [(.int x7)])) _
            refine XS.bipush X332.here hx rfl (hb hby at_132) ?_
            show Steps p.tables e below (T332.setTop (mkF m 134 (LS_IIIRRIIIIuu p0 p1 p2 b1 w_CronField_DAY_OF_WEEK (0 : Int32) (7 : Int32) x7 (1 : Int32)) [(.int (7 : Int32)), (.int x7)])) _
            refine Jvm.RoadKit.iremM X332 hx rfl (hb hby at_134) rfl (by decide) ?_
            show Steps p.tables e below (T332.setTop (mkF m 135 (LS_IIIRRIIIIuu p0 p1 p2 b1 w_CronField_DAY_OF_WEEK (0 : Int32) (7 : Int32) x7 (1 : Int32)) [(.int (x7 % (7 : Int32)))])) _
            refine XS.istore X332.here hx rfl (hb hby at_135) rfl (l' := (LS_IIIRRIIIIIu p0 p1 p2 b1 w_CronField_DAY_OF_WEEK (0 : Int32) (7 : Int32) x7 (1 : Int32) (x7 % (7 : Int32)))) rfl ?_
            show Steps p.tables e below (T332.setTop (mkF m 137 (LS_IIIRRIIIIIu p0 p1 p2 b1 w_CronField_DAY_OF_WEEK (0 : Int32) (7 : Int32) x7 (1 : Int32) (x7 % (7 : Int32))) [])) _
            refine XS.goto X332.here hx rfl (pc0 := 137) (pc' := 144) rfl (hb hby at_137) (by decide) (by decide) ?_
            show Steps p.tables e below (T332.setTop (mkF m 144 (LS_IIIRRIIIIIu p0 p1 p2 b1 w_CronField_DAY_OF_WEEK (0 : Int32) (7 : Int32) x7 (1 : Int32) (x7 % (7 : Int32))) [])) _
            refine XS.aload X332.here hx rfl (hb hby at_144) rfl rfl ?_
            show Steps p.tables e below (T332.setTop (mkF m 146 (LS_IIIRRIIIIIu p0 p1 p2 b1 w_CronField_DAY_OF_WEEK (0 : Int32) (7 : Int32) x7 (1 : Int32) (x7 % (7 : Int32))) [(.ref w_CronField_DAY_OF_WEEK)])) _
            refine XS.iload X332.here hx rfl (hb hby at_146) rfl ?_
            exact k
          obtain ⟨cq333, kq333, q333a, q333b, q333c⟩ := isOf hZ e332 E_CronField_DAY_OF_WEEK_v311
          obtain ⟨_, _, ⟨T333, L333, k333, n333⟩, -, X333, ⟨Lc333, hQ333, l333, y333, z333⟩, st333⟩ := X332.virtualBack hx (y := (⟨"com/example/murray_hill/murrayhill/cron/CronField", "canonical", "(I)I"⟩ : MethodName)) (z := (⟨"com/example/murray_hill/murrayhill/cron/CronField", "canonical", "(I)I"⟩ : MethodName)) hown (mvT hZ (hw _ (List.mem_of_getElem? (i := 31) rfl))) (mvT hZ (hw _ (List.mem_of_getElem? (i := 32) rfl))) (notFace_of_selects (args := #[]) (mvT hZ (hw _ (List.mem_of_getElem? (i := 34) rfl)))) (mvT hZ (hw _ (List.mem_of_getElem? (i := 34) rfl))) (mvT hZ (hw _ (List.mem_of_getElem? (i := 33) rfl))) (by decide) (backOf (W := 0) (rm3 l Z a0 hw [] w_CronField_DAY_OF_WEEK x7 w_CronField_DAY_OF_WEEK h55 n0 Z0_v309 S_CronField_DAY_OF_WEEK_v331) hZ (hw _ (List.mem_of_getElem? (i := 35) rfl)) (hw _ (List.mem_of_getElem? (i := 3) rfl)) (by decide) (by decide)) q333a q333c (g := (mkF m 148 (LS_IIIRRIIIIIu p0 p1 p2 b1 w_CronField_DAY_OF_WEEK (0 : Int32) (7 : Int32) x7 (1 : Int32) (x7 % (7 : Int32))) [(.int x7), (.ref w_CronField_DAY_OF_WEEK)])) rfl (by rw [hml]; rfl) (Steps.refl _) (argsL := [(.int x7)]) (rest := []) (lenOf pd__I_I rfl) rfl (by show 2 * 0 + _ ≤ _; exact Nat.le_of_eq rfl) (hb hby at_148) (fun _ _ => ⟨rfl, e332, (by decide : 1 + 0 ≤ _), (by decide : 6 + 0 ≤ _)⟩)
          dsimp only [Pt.U, Pt.locs, Pt.cells, Pt.slots] at X333 l333 y333 z333 st333 hQ333
          subst l333 y333 z333
          obtain ⟨rfl, N333q, e333⟩ := hQ333
          have N333 := Fr.app N319 N333q
          refine own_go (B := T333.setTop (mkF m 151 (LS_IIIRRIIIIIu p0 p1 p2 b1 w_CronField_DAY_OF_WEEK (0 : Int32) (7 : Int32) x7 (1 : Int32) (x7 % (7 : Int32))) [(.int (if w_CronField_DAY_OF_WEEK = w_CronField_DAY_OF_WEEK then (if x7 = (7 : Int32) then (0 : Int32) else x7) else x7))])) (fun t k => st333.trans k) ?_
          rw [show (if w_CronField_DAY_OF_WEEK = w_CronField_DAY_OF_WEEK then (if x7 = (7 : Int32) then (0 : Int32) else x7) else x7) = (if x7 = (7 : Int32) then (0 : Int32) else x7) from if_pos rfl]
          refine own_go (B := T333.setTop (mkF m 164 (LS_IIIRRIIIIII p0 p1 p2 b1 w_CronField_DAY_OF_WEEK (0 : Int32) (7 : Int32) x7 (1 : Int32) (x7 % (7 : Int32)) (if x7 = (7 : Int32) then (0 : Int32) else x7)) [(.int (if x7 = (7 : Int32) then (0 : Int32) else x7)), (.ref w_CronField_DAY_OF_WEEK)])) (fun t k => ?_) ?_
          · show Steps p.tables e below (T333.setTop (mkF m 151 (LS_IIIRRIIIIIu p0 p1 p2 b1 w_CronField_DAY_OF_WEEK (0 : Int32) (7 : Int32) x7 (1 : Int32) (x7 % (7 : Int32))) [(.int (if x7 = (7 : Int32) then (0 : Int32) else x7))])) _
            refine XS.istore X333.here hx rfl (hb hby at_151) rfl (l' := (LS_IIIRRIIIIII p0 p1 p2 b1 w_CronField_DAY_OF_WEEK (0 : Int32) (7 : Int32) x7 (1 : Int32) (x7 % (7 : Int32)) (if x7 = (7 : Int32) then (0 : Int32) else x7))) rfl ?_
            show Steps p.tables e below (T333.setTop (mkF m 153 (LS_IIIRRIIIIII p0 p1 p2 b1 w_CronField_DAY_OF_WEEK (0 : Int32) (7 : Int32) x7 (1 : Int32) (x7 % (7 : Int32)) (if x7 = (7 : Int32) then (0 : Int32) else x7)) [])) _
            refine XS.iload X333.here hx rfl (hb hby at_153) rfl ?_
            show Steps p.tables e below (T333.setTop (mkF m 155 (LS_IIIRRIIIIII p0 p1 p2 b1 w_CronField_DAY_OF_WEEK (0 : Int32) (7 : Int32) x7 (1 : Int32) (x7 % (7 : Int32)) (if x7 = (7 : Int32) then (0 : Int32) else x7)) [(.int (if x7 = (7 : Int32) then (0 : Int32) else x7))])) _
            refine XS.iload X333.here hx rfl (hb hby at_155) rfl ?_
            show Steps p.tables e below (T333.setTop (mkF m 157 (LS_IIIRRIIIIII p0 p1 p2 b1 w_CronField_DAY_OF_WEEK (0 : Int32) (7 : Int32) x7 (1 : Int32) (x7 % (7 : Int32)) (if x7 = (7 : Int32) then (0 : Int32) else x7)) [(.int (x7 % (7 : Int32))), (.int (if x7 = (7 : Int32) then (0 : Int32) else x7))])) _
            refine XS.icmpNo X333.here hx rfl (hb hby at_157) rfl (teq (own_dow1 hc100_321 hc107_326)).2 ?_
            show Steps p.tables e below (T333.setTop (mkF m 160 (LS_IIIRRIIIIII p0 p1 p2 b1 w_CronField_DAY_OF_WEEK (0 : Int32) (7 : Int32) x7 (1 : Int32) (x7 % (7 : Int32)) (if x7 = (7 : Int32) then (0 : Int32) else x7)) [])) _
            refine XS.aload X333.here hx rfl (hb hby at_160) rfl rfl ?_
            show Steps p.tables e below (T333.setTop (mkF m 162 (LS_IIIRRIIIIII p0 p1 p2 b1 w_CronField_DAY_OF_WEEK (0 : Int32) (7 : Int32) x7 (1 : Int32) (x7 % (7 : Int32)) (if x7 = (7 : Int32) then (0 : Int32) else x7)) [(.ref w_CronField_DAY_OF_WEEK)])) _
            refine XS.iload X333.here hx rfl (hb hby at_162) rfl ?_
            exact k
          obtain ⟨cq334, kq334, q334a, q334b, q334c⟩ := isOf hZ e333 E_CronField_DAY_OF_WEEK_v311
          obtain ⟨_, _, ⟨T334, L334, k334, n334⟩, -, X334, ⟨Lc334, hQ334, l334, y334, z334⟩, st334⟩ := X333.virtualBack hx (y := (⟨"com/example/murray_hill/murrayhill/cron/CronField", "canonical", "(I)I"⟩ : MethodName)) (z := (⟨"com/example/murray_hill/murrayhill/cron/CronField", "canonical", "(I)I"⟩ : MethodName)) hown (mvT hZ (hw _ (List.mem_of_getElem? (i := 31) rfl))) (mvT hZ (hw _ (List.mem_of_getElem? (i := 32) rfl))) (notFace_of_selects (args := #[]) (mvT hZ (hw _ (List.mem_of_getElem? (i := 34) rfl)))) (mvT hZ (hw _ (List.mem_of_getElem? (i := 34) rfl))) (mvT hZ (hw _ (List.mem_of_getElem? (i := 33) rfl))) (by decide) (backOf (W := 0) (rm3 l Z a0 hw [] w_CronField_DAY_OF_WEEK (if x7 = (7 : Int32) then (0 : Int32) else x7) w_CronField_DAY_OF_WEEK h55 n0 Z0_v309 S_CronField_DAY_OF_WEEK_v331) hZ (hw _ (List.mem_of_getElem? (i := 35) rfl)) (hw _ (List.mem_of_getElem? (i := 3) rfl)) (by decide) (by decide)) q334a q334c (g := (mkF m 164 (LS_IIIRRIIIIII p0 p1 p2 b1 w_CronField_DAY_OF_WEEK (0 : Int32) (7 : Int32) x7 (1 : Int32) (x7 % (7 : Int32)) (if x7 = (7 : Int32) then (0 : Int32) else x7)) [(.int (if x7 = (7 : Int32) then (0 : Int32) else x7)), (.ref w_CronField_DAY_OF_WEEK)])) rfl (by rw [hml]; rfl) (Steps.refl _) (argsL := [(.int (if x7 = (7 : Int32) then (0 : Int32) else x7))]) (rest := []) (lenOf pd__I_I rfl) rfl (by show 2 * 0 + _ ≤ _; exact Nat.le_of_eq rfl) (hb hby at_164) (fun _ _ => ⟨rfl, e333, (by decide : 1 + 0 ≤ _), (by decide : 6 + 0 ≤ _)⟩)
          dsimp only [Pt.U, Pt.locs, Pt.cells, Pt.slots] at X334 l334 y334 z334 st334 hQ334
          subst l334 y334 z334
          obtain ⟨rfl, N334q, e334⟩ := hQ334
          have N334 := Fr.app N333 N334q
          refine own_go (B := T334.setTop (mkF m 167 (LS_IIIRRIIIIII p0 p1 p2 b1 w_CronField_DAY_OF_WEEK (0 : Int32) (7 : Int32) x7 (1 : Int32) (x7 % (7 : Int32)) (if x7 = (7 : Int32) then (0 : Int32) else x7)) [(.int (if w_CronField_DAY_OF_WEEK = w_CronField_DAY_OF_WEEK then (if (if x7 = (7 : Int32) then (0 : Int32) else x7) = (7 : Int32) then (0 : Int32) else (if x7 = (7 : Int32) then (0 : Int32) else x7)) else (if x7 = (7 : Int32) then (0 : Int32) else x7)))])) (fun t k => st334.trans k) ?_
          rw [show (if w_CronField_DAY_OF_WEEK = w_CronField_DAY_OF_WEEK then (if (if x7 = (7 : Int32) then (0 : Int32) else x7) = (7 : Int32) then (0 : Int32) else (if x7 = (7 : Int32) then (0 : Int32) else x7)) else (if x7 = (7 : Int32) then (0 : Int32) else x7)) = (if (if x7 = (7 : Int32) then (0 : Int32) else x7) = (7 : Int32) then (0 : Int32) else (if x7 = (7 : Int32) then (0 : Int32) else x7)) from if_pos rfl]
          rw [own_dow4 x7]
          refine own_go (B := T334.setTop (mkF m 177 (LS_IIIRRIIIIII p0 p1 p2 b1 w_CronField_DAY_OF_WEEK (0 : Int32) (7 : Int32) x7 (1 : Int32) (x7 % (7 : Int32)) (if x7 = (7 : Int32) then (0 : Int32) else x7)) [(.int (1 : Int32))])) (fun t k => ?_) ?_
          · show Steps p.tables e below (T334.setTop (mkF m 167 (LS_IIIRRIIIIII p0 p1 p2 b1 w_CronField_DAY_OF_WEEK (0 : Int32) (7 : Int32) x7 (1 : Int32) (x7 % (7 : Int32)) (if x7 = (7 : Int32) then (0 : Int32) else x7)) [(.int (if x7 = (7 : Int32) then (0 : Int32) else x7))])) _
            refine XS.iload X334.here hx rfl (hb hby at_167) rfl ?_
            show Steps p.tables e below (T334.setTop (mkF m 169 (LS_IIIRRIIIIII p0 p1 p2 b1 w_CronField_DAY_OF_WEEK (0 : Int32) (7 : Int32) x7 (1 : Int32) (x7 % (7 : Int32)) (if x7 = (7 : Int32) then (0 : Int32) else x7)) [(.int (if x7 = (7 : Int32) then (0 : Int32) else x7)), (.int (if x7 = (7 : Int32) then (0 : Int32) else x7))])) _
            refine XS.icmpNo X334.here hx rfl (hb hby at_169) rfl (teq (rfl : (if x7 = (7 : Int32) then (0 : Int32) else x7) = (if x7 = (7 : Int32) then (0 : Int32) else x7))).2 ?_
            show Steps p.tables e below (T334.setTop (mkF m 172 (LS_IIIRRIIIIII p0 p1 p2 b1 w_CronField_DAY_OF_WEEK (0 : Int32) (7 : Int32) x7 (1 : Int32) (x7 % (7 : Int32)) (if x7 = (7 : Int32) then (0 : Int32) else x7)) [])) _
            refine XS.iconst X334.here hx rfl (hb hby at_172) ?_
            show Steps p.tables e below (T334.setTop (mkF m 173 (LS_IIIRRIIIIII p0 p1 p2 b1 w_CronField_DAY_OF_WEEK (0 : Int32) (7 : Int32) x7 (1 : Int32) (x7 % (7 : Int32)) (if x7 = (7 : Int32) then (0 : Int32) else x7)) [(.int (1 : Int32))])) _
            refine XS.goto X334.here hx rfl (pc0 := 173) (pc' := 177) rfl (hb hby at_173) (by decide) (by decide) ?_
            exact k
          obtain ⟨fs, hr, hrun, hended, hW, hsame⟩ := X334.leave (v := some (.int (1 : Int32))) (fun h => by rw [Bd.returns] at h; cases h)
          refine ⟨_, _, ?_, hrun, hended, _, _, rfl, ?_, ⟨_, rfl⟩, hW, hsame.mono (by decide) (by decide)⟩
          · show Steps p.tables e below (T334.setTop (mkF m 177 (LS_IIIRRIIIIII p0 p1 p2 b1 w_CronField_DAY_OF_WEEK (0 : Int32) (7 : Int32) x7 (1 : Int32) (x7 % (7 : Int32)) (if x7 = (7 : Int32) then (0 : Int32) else x7)) [(.int (1 : Int32))])) _
            exact retN X334 hx (t := .boolean) Bd.returns (by simp) (hb hby at_177) hr
          · show Q0 Z p0 p1 p2 w_CronField_SECOND w_CronField_MINUTE w_CronField_HOUR w_CronField_DAY_OF_MONTH w_CronField_MONTH w_CronField_DAY_OF_WEEK h0 n0 _ T334.heap _
            rw [e334]
            exact ⟨rfl, N334⟩
    · intro rest320
      refine own_go (B := T319.setTop (mkF m 70 (LS_IIIRRIIuuuu p0 p1 p2 b1 w_CronField_DAY_OF_WEEK (0 : Int32) (7 : Int32)) [(.int (p2 &&& (1 : Int32)))])) (fun t k => ?_) ?_
      · show Steps p.tables e below (T319.setTop (mkF m 67 (LS_IIIRRIIuuuu p0 p1 p2 b1 w_CronField_DAY_OF_WEEK (0 : Int32) (7 : Int32)) [])) _
        refine XS.iloadN X319.here hx rfl (hb hby at_67) rfl ?_
        show Steps p.tables e below (T319.setTop (mkF m 68 (LS_IIIRRIIuuuu p0 p1 p2 b1 w_CronField_DAY_OF_WEEK (0 : Int32) (7 : Int32)) [(.int p2)])) _
        refine XS.iconst X319.here hx rfl (hb hby at_68) ?_
        show Steps p.tables e below (T319.setTop (mkF m 69 (LS_IIIRRIIuuuu p0 p1 p2 b1 w_CronField_DAY_OF_WEEK (0 : Int32) (7 : Int32)) [(.int (1 : Int32)), (.int p2)])) _
        refine XS.iand X319.here hx rfl (hb hby at_69) rfl ?_
        exact k
      by_cases hc70_335 : (p2 &&& (1 : Int32)) = (0 : Int32)
      · refine own_go (B := T319.setTop (mkF m 96 (LS_IIIRRIIIuuu p0 p1 p2 b1 w_CronField_DAY_OF_WEEK (0 : Int32) (7 : Int32) ((0 : Int32) + ((p1 &&& (2147483647 : Int32)) % (((7 : Int32) - (0 : Int32)) + (1 : Int32))))) [])) (fun t k => ?_) ?_
        · show Steps p.tables e below (T319.setTop (mkF m 70 (LS_IIIRRIIuuuu p0 p1 p2 b1 w_CronField_DAY_OF_WEEK (0 : Int32) (7 : Int32)) [(.int (p2 &&& (1 : Int32)))])) _
          refine XS.ifYes X319.here hx rfl (pc0 := 70) (pc' := 79) rfl (hb hby at_70) rfl ((if0 _ _).trans (teq hc70_335).1) (by decide) (by decide) ?_
          show Steps p.tables e below (T319.setTop (mkF m 79 (LS_IIIRRIIuuuu p0 p1 p2 b1 w_CronField_DAY_OF_WEEK (0 : Int32) (7 : Int32)) [])) _
          refine XS.iload X319.here hx rfl (hb hby at_79) rfl ?_
          show Steps p.tables e below (T319.setTop (mkF m 81 (LS_IIIRRIIuuuu p0 p1 p2 b1 w_CronField_DAY_OF_WEEK (0 : Int32) (7 : Int32)) [(.int (0 : Int32))])) _
          refine XS.iloadN X319.here hx rfl (hb hby at_81) rfl ?_
          show Steps p.tables e below (T319.setTop (mkF m 82 (LS_IIIRRIIuuuu p0 p1 p2 b1 w_CronField_DAY_OF_WEEK (0 : Int32) (7 : Int32)) [(.int p1), (.int (0 : Int32))])) _
          refine X319.ldcInt hx hown (mvT hZ (hw _ (List.mem_of_getElem? (i := 16) rfl))) (g := (mkF m 82 (LS_IIIRRIIuuuu p0 p1 p2 b1 w_CronField_DAY_OF_WEEK (0 : Int32) (7 : Int32)) [(.int p1), (.int (0 : Int32))])) rfl (hb hby at_82) _ ?_
          show Steps p.tables e below (T319.setTop (mkF m 84 (LS_IIIRRIIuuuu p0 p1 p2 b1 w_CronField_DAY_OF_WEEK (0 : Int32) (7 : Int32)) [(.int (2147483647 : Int32)), (.int p1), (.int (0 : Int32))])) _
          refine XS.iand X319.here hx rfl (hb hby at_84) rfl ?_
          show Steps p.tables e below (T319.setTop (mkF m 85 (LS_IIIRRIIuuuu p0 p1 p2 b1 w_CronField_DAY_OF_WEEK (0 : Int32) (7 : Int32)) [(.int (p1 &&& (2147483647 : Int32))), (.int (0 : Int32))])) _
          refine XS.iload X319.here hx rfl (hb hby at_85) rfl ?_
          show Steps p.tables e below (T319.setTop (mkF m 87 (LS_IIIRRIIuuuu p0 p1 p2 b1 w_CronField_DAY_OF_WEEK (0 : Int32) (7 : Int32)) [(.int (7 : Int32)), (.int (p1 &&& (2147483647 : Int32))), (.int (0 : Int32))])) _
          refine XS.iload X319.here hx rfl (hb hby at_87) rfl ?_
          show Steps p.tables e below (T319.setTop (mkF m 89 (LS_IIIRRIIuuuu p0 p1 p2 b1 w_CronField_DAY_OF_WEEK (0 : Int32) (7 : Int32)) [(.int (0 : Int32)), (.int (7 : Int32)), (.int (p1 &&& (2147483647 : Int32))), (.int (0 : Int32))])) _
          refine XS.isub X319.here hx rfl (hb hby at_89) rfl ?_
          show Steps p.tables e below (T319.setTop (mkF m 90 (LS_IIIRRIIuuuu p0 p1 p2 b1 w_CronField_DAY_OF_WEEK (0 : Int32) (7 : Int32)) [(.int ((7 : Int32) - (0 : Int32))), (.int (p1 &&& (2147483647 : Int32))), (.int (0 : Int32))])) _
          refine XS.iconst X319.here hx rfl (hb hby at_90) ?_
          show Steps p.tables e below (T319.setTop (mkF m 91 (LS_IIIRRIIuuuu p0 p1 p2 b1 w_CronField_DAY_OF_WEEK (0 : Int32) (7 : Int32)) [(.int (1 : Int32)), (.int ((7 : Int32) - (0 : Int32))), (.int (p1 &&& (2147483647 : Int32))), (.int (0 : Int32))])) _
          refine XS.iadd X319.here hx rfl (hb hby at_91) rfl ?_
          show Steps p.tables e below (T319.setTop (mkF m 92 (LS_IIIRRIIuuuu p0 p1 p2 b1 w_CronField_DAY_OF_WEEK (0 : Int32) (7 : Int32)) [(.int (((7 : Int32) - (0 : Int32)) + (1 : Int32))), (.int (p1 &&& (2147483647 : Int32))), (.int (0 : Int32))])) _
          refine Jvm.RoadKit.iremM X319 hx rfl (hb hby at_92) rfl (by decide) ?_
          show Steps p.tables e below (T319.setTop (mkF m 93 (LS_IIIRRIIuuuu p0 p1 p2 b1 w_CronField_DAY_OF_WEEK (0 : Int32) (7 : Int32)) [(.int ((p1 &&& (2147483647 : Int32)) % (((7 : Int32) - (0 : Int32)) + (1 : Int32)))), (.int (0 : Int32))])) _
          refine XS.iadd X319.here hx rfl (hb hby at_93) rfl ?_
          show Steps p.tables e below (T319.setTop (mkF m 94 (LS_IIIRRIIuuuu p0 p1 p2 b1 w_CronField_DAY_OF_WEEK (0 : Int32) (7 : Int32)) [(.int ((0 : Int32) + ((p1 &&& (2147483647 : Int32)) % (((7 : Int32) - (0 : Int32)) + (1 : Int32)))))])) _
          refine XS.istore X319.here hx rfl (hb hby at_94) rfl (l' := (LS_IIIRRIIIuuu p0 p1 p2 b1 w_CronField_DAY_OF_WEEK (0 : Int32) (7 : Int32) ((0 : Int32) + ((p1 &&& (2147483647 : Int32)) % (((7 : Int32) - (0 : Int32)) + (1 : Int32)))))) rfl ?_
          exact k
        exact rest320 ((0 : Int32) + ((p1 &&& (2147483647 : Int32)) % (((7 : Int32) - (0 : Int32)) + (1 : Int32)))) _ X319 e319
      · refine own_go (B := T319.setTop (mkF m 96 (LS_IIIRRIIIuuu p0 p1 p2 b1 w_CronField_DAY_OF_WEEK (0 : Int32) (7 : Int32) p1) [])) (fun t k => ?_) ?_
        · show Steps p.tables e below (T319.setTop (mkF m 70 (LS_IIIRRIIuuuu p0 p1 p2 b1 w_CronField_DAY_OF_WEEK (0 : Int32) (7 : Int32)) [(.int (p2 &&& (1 : Int32)))])) _
          refine XS.ifNo X319.here hx rfl (hb hby at_70) rfl ((if0 _ _).trans (feq hc70_335).1) ?_
          show Steps p.tables e below (T319.setTop (mkF m 73 (LS_IIIRRIIuuuu p0 p1 p2 b1 w_CronField_DAY_OF_WEEK (0 : Int32) (7 : Int32)) [])) _
          refine XS.iloadN X319.here hx rfl (hb hby at_73) rfl ?_
          show Steps p.tables e below (T319.setTop (mkF m 74 (LS_IIIRRIIuuuu p0 p1 p2 b1 w_CronField_DAY_OF_WEEK (0 : Int32) (7 : Int32)) [(.int p1)])) _
          refine XS.istore X319.here hx rfl (hb hby at_74) rfl (l' := (LS_IIIRRIIIuuu p0 p1 p2 b1 w_CronField_DAY_OF_WEEK (0 : Int32) (7 : Int32) p1)) rfl ?_
          show Steps p.tables e below (T319.setTop (mkF m 76 (LS_IIIRRIIIuuu p0 p1 p2 b1 w_CronField_DAY_OF_WEEK (0 : Int32) (7 : Int32) p1) [])) _
          refine XS.goto X319.here hx rfl (pc0 := 76) (pc' := 96) rfl (hb hby at_76) (by decide) (by decide) ?_
          exact k
        exact rest320 p1 _ X319 e319
set_option maxRecDepth 65536 in
set_option maxHeartbeats 40000000 in
theorem comes_1 {Post : Tables → Env → Array Value → State → Outcome → State → Prop} (hpost : ∀ tb e args s v u, (limb_1_1.after args s (.returned v) u = true ∧ limb_1_2.after args s (.returned v) u = true ∧ True) → FrameEnd s (.returned v) u (Jvm.fieldLocs frame_1_writes args s ++ Jvm.arrayLocs frame_1_arrays args s ++ Jvm.staticLocs frame_1_statics s) 16 128 → Post tb e args s (.returned v) u) :
    ArmFor flags0 classFile x code maxLocals ret World_1 tables_1 room_1 Calls_1 rest_1 Pre_1 Post := by
  intro l hfl _ _ p e ha hc hk s m args below hf hA hF happ hP
  obtain ⟨hcalls, hrest, hpre⟩ := hP
  obtain ⟨-, -, -, hnamed, -, -, -, hat⟩ := (Spec.applies_iff hf).mp happ
  obtain ⟨hg, hn⟩ := and_e (Cond.before_iff.mp (show (Jvm.Cond.and given_1 narrow_1).before args s = true from hpre))
  obtain ⟨g1, g2⟩ := and_e hg
  obtain ⟨g3, g4⟩ := and_e g2
  obtain ⟨g5, g6⟩ := and_e g4
  obtain ⟨w0, w1, w2, rfl⟩ : ∃ w0 w1 w2 : Value, args = #[w0, w1, w2] := by
    have hs : args.size = 3 := by simpa [Cond.value, given_1] using g1
    obtain ⟨L⟩ := args
    match L, hs with
    | [w0, w1, w2], _ => exact ⟨w0, w1, w2, rfl⟩
  have hw := fun d (hd : d ∈ tables_1) => atoms_spec (ws := Jvm.Cond.code x code maxLocals ret :: tables_1) hat d (List.mem_cons_of_mem _ hd)
  have hfit : Fit s := fun {y c} hc i hi => by
    obtain ⟨ha, rfl⟩ := Array.getElem?_eq_some_iff.mp hc
    have q := List.all_eq_true.mp ((Array.all_eq_true_iff_forall_mem.mp hF) _ (Array.getElem_mem ha)) i (List.mem_range.mpr hi)
    simpa [Array.getElem?_eq_getElem hi] using q
  obtain ⟨i0, ei0⟩ := is_v g3
  obtain rfl : w0 = (.int i0) := Option.some.inj ei0
  obtain ⟨i1, ei1⟩ := is_v g5
  obtain rfl : w1 = (.int i1) := Option.some.inj ei1
  obtain ⟨i2, ei2⟩ := is_v g6
  obtain rfl : w2 = (.int i2) := Option.some.inj ei2
  obtain ⟨g7, g8⟩ := and_e hn
  obtain ⟨w_CronField_SECOND, ev_CronField_SECOND⟩ := exa_v g7
  have S_CronField_SECOND : Sta s s.heap "com/example/murray_hill/murrayhill/cron/CronField" "SECOND" "Lcom/example/murray_hill/murrayhill/cron/CronField;" (.ref w_CronField_SECOND) := Sta.start ev_CronField_SECOND (Or.inr ⟨(hw _ (List.mem_of_getElem? (i := 3) rfl)), (hw _ (List.mem_of_getElem? (i := 4) rfl))⟩)
  have E_CronField_SECOND : Exa s s.heap w_CronField_SECOND "com/example/murray_hill/murrayhill/cron/CronField" := Exa.start ev_CronField_SECOND g7
  obtain ⟨g9, g10⟩ := and_e g8
  obtain ⟨w_CronField_MINUTE, ev_CronField_MINUTE⟩ := exa_v g9
  have S_CronField_MINUTE : Sta s s.heap "com/example/murray_hill/murrayhill/cron/CronField" "MINUTE" "Lcom/example/murray_hill/murrayhill/cron/CronField;" (.ref w_CronField_MINUTE) := Sta.start ev_CronField_MINUTE (Or.inr ⟨(hw _ (List.mem_of_getElem? (i := 3) rfl)), (hw _ (List.mem_of_getElem? (i := 7) rfl))⟩)
  have E_CronField_MINUTE : Exa s s.heap w_CronField_MINUTE "com/example/murray_hill/murrayhill/cron/CronField" := Exa.start ev_CronField_MINUTE g9
  obtain ⟨g11, g12⟩ := and_e g10
  obtain ⟨w_CronField_HOUR, ev_CronField_HOUR⟩ := exa_v g11
  have S_CronField_HOUR : Sta s s.heap "com/example/murray_hill/murrayhill/cron/CronField" "HOUR" "Lcom/example/murray_hill/murrayhill/cron/CronField;" (.ref w_CronField_HOUR) := Sta.start ev_CronField_HOUR (Or.inr ⟨(hw _ (List.mem_of_getElem? (i := 3) rfl)), (hw _ (List.mem_of_getElem? (i := 9) rfl))⟩)
  have E_CronField_HOUR : Exa s s.heap w_CronField_HOUR "com/example/murray_hill/murrayhill/cron/CronField" := Exa.start ev_CronField_HOUR g11
  obtain ⟨g13, g14⟩ := and_e g12
  obtain ⟨w_CronField_DAY_OF_MONTH, ev_CronField_DAY_OF_MONTH⟩ := exa_v g13
  have S_CronField_DAY_OF_MONTH : Sta s s.heap "com/example/murray_hill/murrayhill/cron/CronField" "DAY_OF_MONTH" "Lcom/example/murray_hill/murrayhill/cron/CronField;" (.ref w_CronField_DAY_OF_MONTH) := Sta.start ev_CronField_DAY_OF_MONTH (Or.inr ⟨(hw _ (List.mem_of_getElem? (i := 3) rfl)), (hw _ (List.mem_of_getElem? (i := 11) rfl))⟩)
  have E_CronField_DAY_OF_MONTH : Exa s s.heap w_CronField_DAY_OF_MONTH "com/example/murray_hill/murrayhill/cron/CronField" := Exa.start ev_CronField_DAY_OF_MONTH g13
  obtain ⟨g15, g16⟩ := and_e g14
  obtain ⟨w_CronField_MONTH, ev_CronField_MONTH⟩ := exa_v g15
  have S_CronField_MONTH : Sta s s.heap "com/example/murray_hill/murrayhill/cron/CronField" "MONTH" "Lcom/example/murray_hill/murrayhill/cron/CronField;" (.ref w_CronField_MONTH) := Sta.start ev_CronField_MONTH (Or.inr ⟨(hw _ (List.mem_of_getElem? (i := 3) rfl)), (hw _ (List.mem_of_getElem? (i := 13) rfl))⟩)
  have E_CronField_MONTH : Exa s s.heap w_CronField_MONTH "com/example/murray_hill/murrayhill/cron/CronField" := Exa.start ev_CronField_MONTH g15
  obtain ⟨g17, g18⟩ := and_e g16
  obtain ⟨w_CronField_DAY_OF_WEEK, ev_CronField_DAY_OF_WEEK⟩ := exa_v g17
  have S_CronField_DAY_OF_WEEK : Sta s s.heap "com/example/murray_hill/murrayhill/cron/CronField" "DAY_OF_WEEK" "Lcom/example/murray_hill/murrayhill/cron/CronField;" (.ref w_CronField_DAY_OF_WEEK) := Sta.start ev_CronField_DAY_OF_WEEK (Or.inr ⟨(hw _ (List.mem_of_getElem? (i := 3) rfl)), (hw _ (List.mem_of_getElem? (i := 15) rfl))⟩)
  have E_CronField_DAY_OF_WEEK : Exa s s.heap w_CronField_DAY_OF_WEEK "com/example/murray_hill/murrayhill/cron/CronField" := Exa.start ev_CronField_DAY_OF_WEEK g17
  obtain ⟨g19, g20⟩ := and_e g18
  obtain ⟨g21, g22⟩ := and_e g20
  obtain ⟨g23, g24⟩ := and_e g22
  obtain ⟨g25, g26⟩ := and_e g24
  obtain ⟨g27, g28⟩ := and_e g26
  obtain ⟨g29, g30⟩ := and_e g28
  obtain ⟨g31, g32⟩ := and_e g30
  obtain ⟨g33, g34⟩ := and_e g32
  obtain ⟨g35, g36⟩ := and_e g34
  obtain ⟨g37, g38⟩ := and_e g36
  obtain ⟨g39, g40⟩ := and_e g38
  obtain ⟨g41, g42⟩ := and_e g40
  obtain ⟨g43, g44⟩ := and_e g42
  obtain ⟨g45, g46⟩ := and_e g44
  obtain ⟨g47, g48⟩ := and_e g46
  obtain ⟨g49, g50⟩ := and_e g48
  obtain ⟨g51, g52⟩ := and_e g50
  have F_CronField_SECOND_min : Fld s s.heap w_CronField_SECOND "com/example/murray_hill/murrayhill/cron/CronField" "min" "I" (.int (0 : Int32)) := Fld.start ((fld_at ev_CronField_SECOND).symm.trans (own_eqI g19))
  have F_CronField_SECOND_max : Fld s s.heap w_CronField_SECOND "com/example/murray_hill/murrayhill/cron/CronField" "max" "I" (.int (59 : Int32)) := Fld.start ((fld_at ev_CronField_SECOND).symm.trans (own_eqI g21))
  have F_CronField_SECOND_ordinal : Fld s s.heap w_CronField_SECOND "java/lang/Enum" "ordinal" "I" (.int (0 : Int32)) := Fld.start ((fld_at ev_CronField_SECOND).symm.trans (own_eqI g23))
  have F_CronField_DAY_OF_WEEK_ordinal : Fld s s.heap w_CronField_DAY_OF_WEEK "java/lang/Enum" "ordinal" "I" (.int (5 : Int32)) := Fld.start ((fld_at ev_CronField_DAY_OF_WEEK).symm.trans (own_eqI g25))
  have F_CronField_MINUTE_min : Fld s s.heap w_CronField_MINUTE "com/example/murray_hill/murrayhill/cron/CronField" "min" "I" (.int (0 : Int32)) := Fld.start ((fld_at ev_CronField_MINUTE).symm.trans (own_eqI g27))
  have F_CronField_MINUTE_max : Fld s s.heap w_CronField_MINUTE "com/example/murray_hill/murrayhill/cron/CronField" "max" "I" (.int (59 : Int32)) := Fld.start ((fld_at ev_CronField_MINUTE).symm.trans (own_eqI g29))
  have F_CronField_MINUTE_ordinal : Fld s s.heap w_CronField_MINUTE "java/lang/Enum" "ordinal" "I" (.int (1 : Int32)) := Fld.start ((fld_at ev_CronField_MINUTE).symm.trans (own_eqI g31))
  have F_CronField_HOUR_min : Fld s s.heap w_CronField_HOUR "com/example/murray_hill/murrayhill/cron/CronField" "min" "I" (.int (0 : Int32)) := Fld.start ((fld_at ev_CronField_HOUR).symm.trans (own_eqI g33))
  have F_CronField_HOUR_max : Fld s s.heap w_CronField_HOUR "com/example/murray_hill/murrayhill/cron/CronField" "max" "I" (.int (23 : Int32)) := Fld.start ((fld_at ev_CronField_HOUR).symm.trans (own_eqI g35))
  have F_CronField_HOUR_ordinal : Fld s s.heap w_CronField_HOUR "java/lang/Enum" "ordinal" "I" (.int (2 : Int32)) := Fld.start ((fld_at ev_CronField_HOUR).symm.trans (own_eqI g37))
  have F_CronField_DAY_OF_WEEK_min : Fld s s.heap w_CronField_DAY_OF_WEEK "com/example/murray_hill/murrayhill/cron/CronField" "min" "I" (.int (0 : Int32)) := Fld.start ((fld_at ev_CronField_DAY_OF_WEEK).symm.trans (own_eqI g39))
  have F_CronField_DAY_OF_WEEK_max : Fld s s.heap w_CronField_DAY_OF_WEEK "com/example/murray_hill/murrayhill/cron/CronField" "max" "I" (.int (7 : Int32)) := Fld.start ((fld_at ev_CronField_DAY_OF_WEEK).symm.trans (own_eqI g41))
  have F_CronField_DAY_OF_MONTH_min : Fld s s.heap w_CronField_DAY_OF_MONTH "com/example/murray_hill/murrayhill/cron/CronField" "min" "I" (.int (1 : Int32)) := Fld.start ((fld_at ev_CronField_DAY_OF_MONTH).symm.trans (own_eqI g43))
  have F_CronField_DAY_OF_MONTH_max : Fld s s.heap w_CronField_DAY_OF_MONTH "com/example/murray_hill/murrayhill/cron/CronField" "max" "I" (.int (31 : Int32)) := Fld.start ((fld_at ev_CronField_DAY_OF_MONTH).symm.trans (own_eqI g45))
  have F_CronField_DAY_OF_MONTH_ordinal : Fld s s.heap w_CronField_DAY_OF_MONTH "java/lang/Enum" "ordinal" "I" (.int (3 : Int32)) := Fld.start ((fld_at ev_CronField_DAY_OF_MONTH).symm.trans (own_eqI g47))
  have F_CronField_MONTH_min : Fld s s.heap w_CronField_MONTH "com/example/murray_hill/murrayhill/cron/CronField" "min" "I" (.int (1 : Int32)) := Fld.start ((fld_at ev_CronField_MONTH).symm.trans (own_eqI g49))
  have F_CronField_MONTH_max : Fld s s.heap w_CronField_MONTH "com/example/murray_hill/murrayhill/cron/CronField" "max" "I" (.int (12 : Int32)) := Fld.start ((fld_at ev_CronField_MONTH).symm.trans (own_eqI g51))
  have F_CronField_MONTH_ordinal : Fld s s.heap w_CronField_MONTH "java/lang/Enum" "ordinal" "I" (.int (4 : Int32)) := Fld.start ((fld_at ev_CronField_MONTH).symm.trans (own_eqI g52))
  obtain ⟨n, o, h1, h2, h3, _, L, rfl, ⟨rfl, N⟩, hq⟩ := rm0 l s _ hw tables_1 i0 i1 i2 w_CronField_SECOND w_CronField_MINUTE w_CronField_HOUR w_CronField_DAY_OF_MONTH w_CronField_MONTH w_CronField_DAY_OF_WEEK s.heap s.heap.size (Nat.le_refl _) S_CronField_SECOND E_CronField_SECOND S_CronField_MINUTE E_CronField_MINUTE S_CronField_HOUR E_CronField_HOUR S_CronField_DAY_OF_MONTH E_CronField_DAY_OF_MONTH S_CronField_MONTH E_CronField_MONTH S_CronField_DAY_OF_WEEK E_CronField_DAY_OF_WEEK F_CronField_SECOND_min F_CronField_SECOND_max F_CronField_SECOND_ordinal F_CronField_DAY_OF_WEEK_ordinal F_CronField_MINUTE_min F_CronField_MINUTE_max F_CronField_MINUTE_ordinal F_CronField_HOUR_min F_CronField_HOUR_max F_CronField_HOUR_ordinal F_CronField_DAY_OF_WEEK_min F_CronField_DAY_OF_WEEK_max F_CronField_DAY_OF_MONTH_min F_CronField_DAY_OF_MONTH_max F_CronField_DAY_OF_MONTH_ordinal F_CronField_MONTH_min F_CronField_MONTH_max F_CronField_MONTH_ordinal p e ha hc hk s m _ below hf ((Spec.applies_iff_loose hf).mp happ).1 ⟨rfl, State.Warmed39.refl s, rfl⟩ trivial
  refine ⟨n, _, h1, h2, h3, hpost _ _ _ _ _ _ ⟨Cond.after_iff.mpr rfl, Cond.after_iff.mpr (eq_i res_at (Term.int_eval (1)) rfl), trivial⟩ ⟨hq.1, hq.2.1, (hq.2.2.sift fun y hy => Or.inr (N y hy)).mono (by decide) (by decide)⟩⟩
theorem main_1_1 : Claimed_1_1 := comes_1 fun _ _ _ _ _ _ h hF => ⟨h.1, hF⟩
theorem main_1_2 : Claimed_1_2 := comes_1 fun _ _ _ _ _ _ h hF => ⟨h.2.1, hF⟩
end Jvm.Pilot.@@N@@
namespace Jvm.Pilot.@@N@@
open Jvm Jvm.ClassFile Sem Op Lib Jvm.Free Jvm.Stand Jvm.Pilot.@@N@@.Jvm.D
/-! MADE BY PROGRAM (witnessworld.py) out of the Statement's table words and the real class files: 13 classes; the members and pool entries that the words name. The judged class is class 1, her method 1. -/
namespace start1
open Jvm.ClassFile
def u (s : String) : CpInfo := .utf8 (stringToUtf16 s)
/-- a pool by its gaps: so many unusable entries, then the entry; so many at the end -/
def gap : Nat → List CpInfo → List CpInfo
  | 0, r => r
  | n + 1, r => .unusable :: gap n r
def poolList (es : List (Nat × CpInfo)) (last : Nat) : List CpInfo := es.foldr (fun e r => gap e.1 (e.2 :: r)) (gap last [])
def pool (es : List (Nat × CpInfo)) (last : Nat) : Array CpInfo := ⟨poolList es last⟩
def fileOf (pool : Array CpInfo) (this : Nat) (attrs : Array Attribute := #[]) (ms : Array MethodInfo := #[]) (fl : Nat := 33) (sup : Nat := 0) (ifs : Array Nat := #[]) (fds : Array FieldInfo := #[]) : ClassFile where
  minorVersion := 0
  majorVersion := 65
  constantPool := pool
  accessFlags := fl
  thisClass := this
  superClass := sup
  interfaces := ifs
  fields := fds
  methods := ms
  attributes := attrs
def plain (name : String) (sup : Option ClassId) : Class where
  name := name
  kind := .ordinary
  loader := none
  accessFlags := 33
  super := sup
  interfaces := #[]
  cf := none
  fields := #[]
  methods := #[]
  instanceTypes := #[]
  staticTypes := #[]
  resolved := #[]
  callSites := []
  init := .initialized
  statics := none
  mirror := none

def pool0 : Array CpInfo := pool [(5, u "<init>"), (0, u "()V"), (1, .class_ 10), (1, u "java/lang/Object")] 113

def k0m0 : Method := { name := "<init>", desc := "()V", sig := { parameters := [], returnType := none }, accessFlags := 1, code := none }
/-- java/lang/Object -/
def k0 : Class := { plain "java/lang/Object" none with
  accessFlags := 33
  interfaces := #[]
  cf := some (fileOf pool0 8 #[] #[{ accessFlags := 1, nameIndex := 5, descriptorIndex := 6, attributes := #[] }] 33 0 #[] #[])
  fields := #[]
  methods := #[k0m0]
  instanceTypes := #[]
  staticTypes := #[]
  resolved := Array.replicate 124 none
  statics := none }

def pool1 : Array CpInfo := pool [(2, .class_ 4), (1, u "java/lang/Object"), (0, u "<init>"), (0, u "()V"), (0, .class_ 8), (0, u "com/example/murray_hill/murrayhill/cron/CronField"), (0, .fieldref 7 10), (0, .nameAndType 11 12), (0, u "SECOND"), (0, u "Lcom/example/murray_hill/murrayhill/cron/CronField;"), (0, .fieldref 7 14), (0, .nameAndType 15 12), (0, u "MINUTE"), (0, .fieldref 7 17), (0, .nameAndType 18 12), (0, u "HOUR"), (0, .fieldref 7 20), (0, .nameAndType 21 12), (0, u "DAY_OF_MONTH"), (0, .fieldref 7 23), (0, .nameAndType 24 12), (0, u "MONTH"), (0, .fieldref 7 26), (0, .nameAndType 27 12), (0, u "DAY_OF_WEEK"), (0, .integer 2147483647), (0, .methodref 7 30), (0, .nameAndType 31 32), (0, u "min"), (0, u "()I"), (0, .methodref 7 34), (0, .nameAndType 35 32), (0, u "max"), (0, .methodref 7 37), (0, .nameAndType 38 39), (0, u "canonical"), (0, u "(I)I"), (0, .class_ 41), (0, u "com/example/murray_hill/murrayhill/cron/CronFieldCanonicalPinLaw"), (2, u "law"), (0, u "(III)Z")] 5

def k1m0 : Method := { name := "<init>", desc := "()V", sig := { parameters := [], returnType := none }, accessFlags := 2, code := none }
def k1c1 : Code := { maxStack := 4, maxLocals := 11, code := code, exceptionTable := #[], attributes := #[] }
def k1m1 : Method := { name := "law", desc := "(III)Z", sig := { parameters := [.int, .int, .int], returnType := some .boolean }, accessFlags := 9, code := some k1c1 }
/-- com/example/murray_hill/murrayhill/cron/CronFieldCanonicalPinLaw -/
def k1 : Class := { plain "com/example/murray_hill/murrayhill/cron/CronFieldCanonicalPinLaw" (some 0) with
  accessFlags := 49
  interfaces := #[]
  cf := some (fileOf pool1 40 #[] #[{ accessFlags := 2, nameIndex := 5, descriptorIndex := 6, attributes := #[] }, { accessFlags := 9, nameIndex := 44, descriptorIndex := 45, attributes := #[] }] 49 2 #[] #[])
  fields := #[]
  methods := #[k1m0, k1m1]
  instanceTypes := #[]
  staticTypes := #[]
  resolved := Array.replicate 51 none
  statics := none }

def pool2 : Array CpInfo := pool [(1, .class_ 2), (0, u "java/lang/constant/Constable"), (0, .class_ 4), (0, u "java/lang/Object")] 6

/-- java/lang/constant/Constable -/
def k2 : Class := { plain "java/lang/constant/Constable" (some 0) with
  accessFlags := 1537
  interfaces := #[]
  cf := some (fileOf pool2 1 #[] #[] 1537 3 #[] #[])
  fields := #[]
  methods := #[]
  instanceTypes := #[]
  staticTypes := #[]
  resolved := Array.replicate 11 none
  statics := none }

def pool3 : Array CpInfo := pool [(1, .class_ 2), (0, u "java/lang/Comparable"), (0, .class_ 4), (0, u "java/lang/Object")] 7

/-- java/lang/Comparable -/
def k3 : Class := { plain "java/lang/Comparable" (some 0) with
  accessFlags := 1537
  interfaces := #[]
  cf := some (fileOf pool3 1 #[] #[] 1537 3 #[] #[])
  fields := #[]
  methods := #[]
  instanceTypes := #[]
  staticTypes := #[]
  resolved := Array.replicate 12 none
  statics := none }

def pool4 : Array CpInfo := pool [(1, .class_ 2), (0, u "java/io/Serializable"), (0, .class_ 4), (0, u "java/lang/Object")] 2

/-- java/io/Serializable -/
def k4 : Class := { plain "java/io/Serializable" (some 0) with
  accessFlags := 1537
  interfaces := #[]
  cf := some (fileOf pool4 1 #[] #[] 1537 3 #[] #[])
  fields := #[]
  methods := #[]
  instanceTypes := #[]
  staticTypes := #[]
  resolved := Array.replicate 7 none
  statics := none }

def pool5 : Array CpInfo := pool [(2, .class_ 4), (1, u "java/lang/Enum"), (0, u "name"), (0, u "Ljava/lang/String;"), (2, u "ordinal"), (0, u "I"), (1, .class_ 14), (1, u "java/lang/Object"), (4, u "hash"), (86, .class_ 108), (1, u "java/lang/Enum$EnumDesc"), (2, .class_ 112), (0, u "java/lang/constant/Constable"), (0, .class_ 114), (0, u "java/lang/Comparable"), (0, .class_ 116), (0, u "java/io/Serializable")] 87

/-- java/lang/Enum -/
def k5 : Class := { plain "java/lang/Enum" (some 0) with
  accessFlags := 1057
  interfaces := #[2, 3, 4]
  cf := some (fileOf pool5 2 #[.nestMembers #[106]] #[] 1057 12 #[111, 113, 115] #[{ accessFlags := 18, nameIndex := 5, descriptorIndex := 6, attributes := #[] }, { accessFlags := 18, nameIndex := 9, descriptorIndex := 10, attributes := #[] }, { accessFlags := 2, nameIndex := 19, descriptorIndex := 10, attributes := #[] }])
  fields := #[{ name := "name", type := (.object "java/lang/String"), accessFlags := 18, slot := 0, constantValue := 0 }, { name := "ordinal", type := .int, accessFlags := 18, slot := 1, constantValue := 0 }, { name := "hash", type := .int, accessFlags := 2, slot := 2, constantValue := 0 }]
  methods := #[]
  instanceTypes := #[(.object "java/lang/String"), .int, .int]
  staticTypes := #[]
  resolved := Array.replicate 204 none
  statics := none }

def pool6 : Array CpInfo := pool [(1, .class_ 2), (0, u "com/example/murray_hill/murrayhill/cron/CronField"), (2, u "SECOND"), (0, u "Lcom/example/murray_hill/murrayhill/cron/CronField;"), (2, u "MINUTE"), (2, u "HOUR"), (2, u "DAY_OF_MONTH"), (2, u "MONTH"), (0, .fieldref 1 20), (0, .nameAndType 21 6), (0, u "DAY_OF_WEEK"), (2, u "$VALUES"), (0, u "[Lcom/example/murray_hill/murrayhill/cron/CronField;"), (6, .class_ 34), (1, u "java/lang/Enum"), (8, u "label"), (0, u "Ljava/lang/String;"), (0, .fieldref 1 46), (0, .nameAndType 47 48), (0, u "min"), (0, u "I"), (0, .fieldref 1 50), (0, .nameAndType 51 48), (0, u "max"), (2, u "names"), (0, u "Ljava/util/List;"), (5, u "()I"), (93, u "SUNDAY_AS_SEVEN"), (15, u "canonical"), (0, u "(I)I")] 20

def k6c0 : Code := { maxStack := 1, maxLocals := 1, code := prog_5_method_5_code, exceptionTable := #[], attributes := #[] }
def k6m0 : Method := { name := "min", desc := "()I", sig := { parameters := [], returnType := some .int }, accessFlags := 0, code := some k6c0 }
def k6c1 : Code := { maxStack := 1, maxLocals := 1, code := prog_5_method_6_code, exceptionTable := #[], attributes := #[] }
def k6m1 : Method := { name := "max", desc := "()I", sig := { parameters := [], returnType := some .int }, accessFlags := 0, code := some k6c1 }
def k6c2 : Code := { maxStack := 2, maxLocals := 3, code := prog_5_method_9_code, exceptionTable := #[], attributes := #[] }
def k6m2 : Method := { name := "canonical", desc := "(I)I", sig := { parameters := [.int], returnType := some .int }, accessFlags := 0, code := some k6c2 }
/-- com/example/murray_hill/murrayhill/cron/CronField -/
def k6 : Class := { plain "com/example/murray_hill/murrayhill/cron/CronField" (some 5) with
  accessFlags := 16432
  interfaces := #[]
  cf := some (fileOf pool6 1 #[] #[{ accessFlags := 0, nameIndex := 47, descriptorIndex := 61, attributes := #[] }, { accessFlags := 0, nameIndex := 51, descriptorIndex := 61, attributes := #[] }, { accessFlags := 0, nameIndex := 171, descriptorIndex := 172, attributes := #[] }] 16432 32 #[] #[{ accessFlags := 16409, nameIndex := 5, descriptorIndex := 6, attributes := #[] }, { accessFlags := 16409, nameIndex := 9, descriptorIndex := 6, attributes := #[] }, { accessFlags := 16409, nameIndex := 12, descriptorIndex := 6, attributes := #[] }, { accessFlags := 16409, nameIndex := 15, descriptorIndex := 6, attributes := #[] }, { accessFlags := 16409, nameIndex := 18, descriptorIndex := 6, attributes := #[] }, { accessFlags := 16409, nameIndex := 21, descriptorIndex := 6, attributes := #[] }, { accessFlags := 26, nameIndex := 155, descriptorIndex := 48, attributes := #[] }, { accessFlags := 18, nameIndex := 43, descriptorIndex := 44, attributes := #[] }, { accessFlags := 18, nameIndex := 47, descriptorIndex := 48, attributes := #[] }, { accessFlags := 18, nameIndex := 51, descriptorIndex := 48, attributes := #[] }, { accessFlags := 18, nameIndex := 54, descriptorIndex := 55, attributes := #[] }, { accessFlags := 4122, nameIndex := 24, descriptorIndex := 25, attributes := #[] }])
  fields := #[{ name := "SECOND", type := (.object "com/example/murray_hill/murrayhill/cron/CronField"), accessFlags := 16409, slot := 0, constantValue := 0 }, { name := "MINUTE", type := (.object "com/example/murray_hill/murrayhill/cron/CronField"), accessFlags := 16409, slot := 1, constantValue := 0 }, { name := "HOUR", type := (.object "com/example/murray_hill/murrayhill/cron/CronField"), accessFlags := 16409, slot := 2, constantValue := 0 }, { name := "DAY_OF_MONTH", type := (.object "com/example/murray_hill/murrayhill/cron/CronField"), accessFlags := 16409, slot := 3, constantValue := 0 }, { name := "MONTH", type := (.object "com/example/murray_hill/murrayhill/cron/CronField"), accessFlags := 16409, slot := 4, constantValue := 0 }, { name := "DAY_OF_WEEK", type := (.object "com/example/murray_hill/murrayhill/cron/CronField"), accessFlags := 16409, slot := 5, constantValue := 0 }, { name := "SUNDAY_AS_SEVEN", type := .int, accessFlags := 26, slot := 6, constantValue := 0 }, { name := "label", type := (.object "java/lang/String"), accessFlags := 18, slot := 3, constantValue := 0 }, { name := "min", type := .int, accessFlags := 18, slot := 4, constantValue := 0 }, { name := "max", type := .int, accessFlags := 18, slot := 5, constantValue := 0 }, { name := "names", type := (.object "java/util/List"), accessFlags := 18, slot := 6, constantValue := 0 }, { name := "$VALUES", type := (.array (.object "com/example/murray_hill/murrayhill/cron/CronField")), accessFlags := 4122, slot := 7, constantValue := 0 }]
  methods := #[k6m0, k6m1, k6m2]
  instanceTypes := #[(.object "java/lang/String"), .int, .int, (.object "java/lang/String"), .int, .int, (.object "java/util/List")]
  staticTypes := #[(.object "com/example/murray_hill/murrayhill/cron/CronField"), (.object "com/example/murray_hill/murrayhill/cron/CronField"), (.object "com/example/murray_hill/murrayhill/cron/CronField"), (.object "com/example/murray_hill/murrayhill/cron/CronField"), (.object "com/example/murray_hill/murrayhill/cron/CronField"), (.object "com/example/murray_hill/murrayhill/cron/CronField"), .int, (.array (.object "com/example/murray_hill/murrayhill/cron/CronField"))]
  resolved := Array.replicate 193 none
  statics := some 0 }

def pool7 : Array CpInfo := pool [(1, u "java/lang/Cloneable"), (0, .class_ 1), (0, u "java/lang/Object"), (0, .class_ 3)] 3

/-- java/lang/Cloneable -/
def k7 : Class := { plain "java/lang/Cloneable" (some 0) with
  accessFlags := 1537
  interfaces := #[]
  cf := some (fileOf pool7 2 #[] #[] 1537 4 #[] #[])
  fields := #[]
  methods := #[]
  instanceTypes := #[]
  staticTypes := #[]
  resolved := Array.replicate 8 none
  statics := none }

/-- the primitive byte -/
def k8 : Class := { plain "byte" none with kind := .primitive 'B', accessFlags := 0x411 }
/-- [B -/
def k9 : Class := { plain "[B" (some 0) with kind := .array 8 .byte, interfaces := #[7, 4], accessFlags := 1041 }

/-- the primitive int -/
def k10 : Class := { plain "int" none with kind := .primitive 'I', accessFlags := 0x411 }
/-- [I -/
def k11 : Class := { plain "[I" (some 0) with kind := .array 10 .int, interfaces := #[7, 4], accessFlags := 1041 }

/-- [Lcom/example/murray_hill/murrayhill/cron/CronField; -/
def k12 : Class := { plain "[Lcom/example/murray_hill/murrayhill/cron/CronField;" (some 0) with kind := .array 6 (.object "com/example/murray_hill/murrayhill/cron/CronField"), interfaces := #[7, 4], accessFlags := 1041 }

def heap : Heap := #[{ cls := 6, slots := #[.ref 1, .ref 2, .ref 3, .ref 4, .ref 5, .ref 6, .int 0, .null], vm := .statics 6 },
  { cls := 6, slots := #[.null, .int 0, .int 0, .null, .int 0, .int 59, .null], vm := .none },
  { cls := 6, slots := #[.null, .int 1, .int 0, .null, .int 0, .int 59, .null], vm := .none },
  { cls := 6, slots := #[.null, .int 2, .int 0, .null, .int 0, .int 23, .null], vm := .none },
  { cls := 6, slots := #[.null, .int 3, .int 0, .null, .int 1, .int 31, .null], vm := .none },
  { cls := 6, slots := #[.null, .int 4, .int 0, .null, .int 1, .int 12, .null], vm := .none },
  { cls := 6, slots := #[.null, .int 5, .int 0, .null, .int 0, .int 7, .null], vm := .none }]
def classes : Array Class := #[k0, k1, k2, k3, k4, k5, k6, k7, k8, k9, k10, k11, k12]
def interned : List (Array UInt16 × Addr) := []
def slotsUsed : Nat := 50
def theMethod : MethodId := ⟨1, 1⟩
def args0 : Array Value := #[.int 5, .int 6, .int 0]
def aboutOver (below : List Frame) : State where
  vm := { classes := classes, interned := interned.toArray }
  heap := heap
  slotsUsed := slotsUsed
  threads := #[{ frames := .invoking theMethod args0 :: below }]
def below0 : List Frame := [.native { method := ⟨0, 0⟩, args := #[] }]
def about1 : State := aboutOver below0
def p0 : Program := .bare "" "" ""
def e0 : Env := launch0.env 0 0 0
theorem w_frames : about1.frames = Frame.invoking theMethod args0 :: below0 := rfl
set_option maxRecDepth 65536 in
theorem w_args : argsFit about1.vm theMethod args0 = true := by decide +kernel
set_option maxRecDepth 65536 in
theorem w_heap : heapFits about1 = true := by decide +kernel
set_option maxRecDepth 65536 in
theorem w_runnable : about1.curStatus? = some .runnable := by decide +kernel
set_option maxRecDepth 65536 in
theorem w_alone : about1.alone = true := by decide +kernel
set_option maxRecDepth 65536 in
theorem w_named : about1.methodNamed? x = some theMethod := by decide +kernel
set_option maxRecDepth 65536 in
theorem w_hears : about1.hears theMethod below0 = true := by decide +kernel
set_option maxRecDepth 65536 in
theorem w_ripe : about1.ripe theMethod args0 below0 = true := by decide +kernel
theorem w_running : about1.status = .running := rfl
set_option maxRecDepth 65536 in
theorem w_room : about1.hasRoom e0.platform room_1 = true :=
  launch0.hasRoom_least _ room_1 (by decide +kernel) (by decide +kernel) (by decide +kernel) (by decide +kernel) (by decide +kernel) (by decide +kernel)
theorem allAtoms_all (ts : List Jvm.Cond) (a : Array Jvm.Value) (st : Jvm.State) : (allAtoms ts).before a st = ts.all (fun c => c.before a st) := by
  induction ts with
  | nil => rfl
  | cons c t ih =>
    show (Jvm.Cond.and c (allAtoms t)).before a st = _
    rw [Jvm.Cond.before_and, ih, List.all_cons]
def words1 : List Jvm.Cond := Jvm.Cond.code x code maxLocals ret :: tables_1
/-- a 'code' word, met by the world's own term for the bytes: nothing is compared byte by byte -/
theorem code_word {y : MethodName} {bytes : ByteArray} {mx : Nat} {rt : Option FieldType} {a : Array Value} {s : State} {m : MethodId} {meth : Method} {c : Code} (h1 : s.methodNamed? y = some m) (h2 : s.vm.method? m = some meth) (h3 : meth.code = some c) (h4 : c.code = bytes)
    (h5 : (c.maxLocals == mx && c.exceptionTable.isEmpty && decide (c.maxStack ≤ mostOperands) && decide (meth.sig.returnType = rt) && !meth.locks && decide (parseMethodDescriptor y.desc = some meth.sig)) = true) : (Jvm.Cond.code y bytes mx rt).before a s = true := by
  simp only [Bool.and_eq_true, beq_iff_eq, Bool.not_eq_true', decide_eq_true_eq] at h5
  obtain ⟨⟨⟨⟨⟨g1, g2⟩, g3⟩, g4⟩, g5⟩, g6⟩ := h5
  simp [Cond.before, Cond.holds, Cond.value, h1, h2, h3, h4, g1, g2, g3, g4, g5, g6]
def isCode : Jvm.Cond → Bool
  | .code _ _ _ _ => true
  | _ => false
theorem all_split {L : List Jvm.Cond} {P : Jvm.Cond → Bool} (h1 : L.all (fun c => isCode c || P c) = true) (h2 : ∀ c ∈ L.filter isCode, P c = true) : L.all P = true := by
  refine List.all_eq_true.mpr fun c hc => ?_
  have h := List.all_eq_true.mp h1 c hc
  rcases Bool.eq_false_or_eq_true (isCode c) with hi | hi
  · exact h2 c (List.mem_filter.mpr ⟨hc, hi⟩)
  · simpa [hi] using h
set_option maxRecDepth 65536 in
theorem w_c0 : (Jvm.Cond.code x code maxLocals ret).before args0 about1 = true := code_word (m := ⟨1, 1⟩) (meth := k1m1) (c := k1c1) (by decide +kernel) rfl rfl rfl (by decide +kernel)
set_option maxRecDepth 65536 in
theorem w_c1 : (Jvm.Cond.code ({ cls := "com/example/murray_hill/murrayhill/cron/CronField", name := "min", desc := "()I" } : Jvm.MethodName) prog_5_method_5_code (1 : Nat) (Option.some Jvm.ClassFile.FieldType.int)).before args0 about1 = true := code_word (m := ⟨6, 0⟩) (meth := k6m0) (c := k6c0) (by decide +kernel) rfl rfl rfl (by decide +kernel)
set_option maxRecDepth 65536 in
theorem w_c2 : (Jvm.Cond.code ({ cls := "com/example/murray_hill/murrayhill/cron/CronField", name := "max", desc := "()I" } : Jvm.MethodName) prog_5_method_6_code (1 : Nat) (Option.some Jvm.ClassFile.FieldType.int)).before args0 about1 = true := code_word (m := ⟨6, 1⟩) (meth := k6m1) (c := k6c1) (by decide +kernel) rfl rfl rfl (by decide +kernel)
set_option maxRecDepth 65536 in
theorem w_c3 : (Jvm.Cond.code ({ cls := "com/example/murray_hill/murrayhill/cron/CronField", name := "canonical", desc := "(I)I" } : Jvm.MethodName) prog_5_method_9_code (3 : Nat) (Option.some Jvm.ClassFile.FieldType.int)).before args0 about1 = true := code_word (m := ⟨6, 2⟩) (meth := k6m2) (c := k6c2) (by decide +kernel) rfl rfl rfl (by decide +kernel)
def codes1 : List Jvm.Cond := [Jvm.Cond.code x code maxLocals ret, Jvm.Cond.code ({ cls := "com/example/murray_hill/murrayhill/cron/CronField", name := "min", desc := "()I" } : Jvm.MethodName) prog_5_method_5_code (1 : Nat) (Option.some Jvm.ClassFile.FieldType.int), Jvm.Cond.code ({ cls := "com/example/murray_hill/murrayhill/cron/CronField", name := "max", desc := "()I" } : Jvm.MethodName) prog_5_method_6_code (1 : Nat) (Option.some Jvm.ClassFile.FieldType.int), Jvm.Cond.code ({ cls := "com/example/murray_hill/murrayhill/cron/CronField", name := "canonical", desc := "(I)I" } : Jvm.MethodName) prog_5_method_9_code (3 : Nat) (Option.some Jvm.ClassFile.FieldType.int)]
set_option maxRecDepth 65536 in
theorem codes_eq : words1.filter isCode = codes1 := rfl
theorem w_codes : ∀ c ∈ words1.filter isCode, c.before args0 about1 = true := by
  rw [codes_eq]
  intro c hc
  simp only [codes1, List.mem_cons, List.not_mem_nil, or_false] at hc
  rcases hc with rfl | rfl | rfl | rfl
  · exact w_c0
  · exact w_c1
  · exact w_c2
  · exact w_c3
set_option maxRecDepth 65536 in
theorem w_t1 : (words1.take 24).all (fun c => isCode c || c.before args0 about1) = true := by decide +kernel
set_option maxRecDepth 65536 in
theorem w_t2 : (words1.drop 24).all (fun c => isCode c || c.before args0 about1) = true := by decide +kernel
theorem w_tables : (allAtoms (Jvm.Cond.code x code maxLocals ret :: tables_1)).before args0 about1 = true := by
  rw [allAtoms_all]
  show words1.all (fun c => c.before args0 about1) = true
  refine all_split ?_ w_codes
  rw [← List.take_append_drop 24 words1, List.all_append, w_t1, w_t2]
  rfl
set_option maxRecDepth 65536 in
theorem w_case : (Jvm.Cond.and given_1 narrow_1).before args0 about1 = true := by decide +kernel
theorem w_applies : (headSpec (Jvm.Cond.code x code maxLocals ret :: tables_1) room_1).applies x e0.platform about1 = true :=
  (Spec.applies_iff w_frames).mpr ⟨w_running, w_runnable, w_alone, w_named, w_hears, w_ripe, w_room, w_tables⟩
theorem atStart : AtStart classFile x code maxLocals ret World_1 tables_1 room_1 Calls_1 rest_1 Pre_1 launch0 p0 e0 about1 theMethod args0 below0 :=
  ⟨lists_1, trivial, launch0.admits_env _ _ _, launch0.least_env, fairChoices_fair.cas, fairChoices_fair.clock, w_frames, w_args, w_heap, w_applies, trivial, trivial, w_case⟩
end start1
theorem witness_1 : WitnessClaimed_1 := ⟨start1.p0, start1.e0, start1.about1, start1.theMethod, start1.args0, start1.below0, start1.atStart⟩
end Jvm.Pilot.@@N@@
