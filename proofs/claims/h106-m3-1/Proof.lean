import JvmDerived
import JvmDerived.Pilot.@@N@@Statement
import JvmDerived.Pilot.@@N@@Code
set_option linter.unusedVariables false
set_option linter.unusedSimpArgs false
@@BLOCK:NumsL.lean.txt@@
namespace Jvm.Pilot.@@N@@
open Jvm Jvm.ClassFile Sem Op Lib Jvm.Free Jvm.Stand Jvm.LawKit Jvm.RoadKit Bundle Jvm.Pilot.@@N@@.Jvm.D
/-- two roads that come together: the rest is shown once, for every state and value with which they come -/
theorem own_join {p : Program} {l : Launch} {e : Env} {R : Room} {s : State} {m : MethodId} {args : Array Value} {below : List Frame} {meth : Method} {c : Code} {T : State} {locs : List Loc} {cells slots : Nat} {A : State} {P : State → Outcome → Prop}
    (X : Stand p l e R s m args below meth c T locs cells slots) {ι : Type} (Φ : ι → State → Prop) (B : ι → JFrame)
    (rest : ∀ i T', Stand p l e R s m args below meth c T' locs cells slots → Φ i T' → ∃ s₂ o, Steps p.tables e below (T'.setTop (B i)) s₂ ∧ P s₂ o)
    (come : (∀ i T', Stand p l e R s m args below meth c T' locs cells slots → Φ i T' → ∃ s₂ o, Steps p.tables e below (T'.setTop (B i)) s₂ ∧ P s₂ o) → ∃ s₂ o, Steps p.tables e below A s₂ ∧ P s₂ o) : ∃ s₂ o, Steps p.tables e below A s₂ ∧ P s₂ o := come rest
theorem own_joinH {p : Program} {l : Launch} {e : Env} {R : Room} {s : State} {m : MethodId} {args : Array Value} {below : List Frame} {meth : Method} {c : Code} {T : State} {locs : List Loc} {cells slots n0 : Nat} {A : State} {P : State → Outcome → Prop}
    (X : Stand p l e R s m args below meth c T locs cells slots) (N : Fr n0 locs) {ι : Type} (cells' slots' : Nat) (Φ : ι → Heap → Prop) (B : ι → JFrame)
    (rest : ∀ i T' locs', Stand p l e R s m args below meth c T' locs' cells' slots' → Fr n0 locs' → Φ i T'.heap → ∃ s₂ o, Steps p.tables e below (T'.setTop (B i)) s₂ ∧ P s₂ o)
    (come : (∀ i T' locs', Stand p l e R s m args below meth c T' locs' cells' slots' → Fr n0 locs' → Φ i T'.heap → ∃ s₂ o, Steps p.tables e below (T'.setTop (B i)) s₂ ∧ P s₂ o) → ∃ s₂ o, Steps p.tables e below A s₂ ∧ P s₂ o) : ∃ s₂ o, Steps p.tables e below A s₂ ∧ P s₂ o := come rest
theorem own_mono {p : Program} {l : Launch} {e : Env} {R : Room} {s : State} {m : MethodId} {args : Array Value} {below : List Frame} {meth : Method} {c : Code} {T : State} {locs : List Loc} {cells slots cells' slots' : Nat}
    (X : Stand p l e R s m args below meth c T locs cells slots) (h1 : cells ≤ cells') (h2 : slots ≤ slots') : Stand p l e R s m args below meth c T locs cells' slots' := { X with same := X.same.mono h1 h2 }
theorem own_sta_keep {Z : State} {h h' : Heap} {C n d : String} {v : Value} {ws : List Addr} (F : Sta Z h C n d v) (K : Keep h h' ws) (q : ∀ x ∈ ws, ∀ c : Cell, h[x]? = some c → c.vm.isStatics = false) : Sta Z h' C n d v := by
  obtain ⟨cf, i, k, f, st, cell, h1, h2, h3, h4, h5, h6, h7⟩ := F
  refine ⟨cf, i, k, f, st, cell, h1, h2, h3, h4, K.2.1 st cell h5 fun hm => ?_, h6, h7⟩
  rw [q st hm cell h5] at h6
  cases h6
theorem own_plain_E {Z : State} {h : Heap} {a : Addr} {C : String} (F : Exa Z h a C) : ∀ c : Cell, h[a]? = some c → c.vm.isStatics = false := by
  obtain ⟨cell, k, h1, h2, h3, h4, h5⟩ := F
  intro c hc
  cases h1.symm.trans hc
  exact h4
theorem own_plain_V {Z : State} {h : Heap} {a : Addr} {k : ClassId} {ty : FieldType} {n : Int32} {vs : List Value} {d : Value} (F : Arv Z h a k ty n vs d) : ∀ c : Cell, h[a]? = some c → c.vm.isStatics = false := by
  obtain ⟨cell, A, -⟩ := F
  intro c hc
  cases A.1.symm.trans hc
  exact A.plain
/-- a stretch of the road, then the rest -/
theorem own_go {tb : Tables} {e : Env} {below : List Frame} {A B : State} {P : State → Outcome → Prop} (h : ∀ t, Steps tb e below B t → Steps tb e below A t) (k : ∃ s₂ o, Steps tb e below B s₂ ∧ P s₂ o) : ∃ s₂ o, Steps tb e below A s₂ ∧ P s₂ o := by
  obtain ⟨s₂, o, h1, h2⟩ := k
  exact ⟨s₂, o, h s₂ h1, h2⟩
theorem own_eqI {args : Array Value} {first s : State} {o : Option Outcome} {idx : List Nat} {t : Term} {k : Int32} (h : (Jvm.Cond.eq t (.int k)).value args first o s idx = some true) : t.eval args first o idx s = some (.int k) := by
  simp only [Jvm.Cond.value, Term.eval] at h
  cases ht : t.eval args first o idx s with
  | none => simp [ht] at h
  | some x => cases x <;> simp [ht] at h ⊢; exact h
theorem own_eqJ {args : Array Value} {first s : State} {o : Option Outcome} {idx : List Nat} {t : Term} {k : Int64} (h : (Jvm.Cond.eq t (.long k)).value args first o s idx = some true) : t.eval args first o idx s = some (.long k) := by
  simp only [Jvm.Cond.value, Term.eval] at h
  cases ht : t.eval args first o idx s with
  | none => simp [ht] at h
  | some x => cases x <;> simp [ht] at h ⊢; exact h
theorem own_eqR {args : Array Value} {first s : State} {o : Option Outcome} {idx : List Nat} {t u : Term} {a : Addr} (h : (Jvm.Cond.eq t u).value args first o s idx = some true) (hu : u.eval args first o idx s = some (.ref a)) : t.eval args first o idx s = some (.ref a) := by
  simp only [Jvm.Cond.value] at h
  cases ht : t.eval args first o idx s with
  | none => simp [ht] at h
  | some x => cases x <;> simp [ht, hu] at h ⊢; exact h
theorem own_mod10 (x : Int32) : (x &&& (2147483647 : Int32)) % (10 : Int32) = (0 : Int32) ∨ (x &&& (2147483647 : Int32)) % (10 : Int32) = (1 : Int32) ∨ (x &&& (2147483647 : Int32)) % (10 : Int32) = (2 : Int32) ∨ (x &&& (2147483647 : Int32)) % (10 : Int32) = (3 : Int32) ∨ (x &&& (2147483647 : Int32)) % (10 : Int32) = (4 : Int32) ∨ (x &&& (2147483647 : Int32)) % (10 : Int32) = (5 : Int32) ∨ (x &&& (2147483647 : Int32)) % (10 : Int32) = (6 : Int32) ∨ (x &&& (2147483647 : Int32)) % (10 : Int32) = (7 : Int32) ∨ (x &&& (2147483647 : Int32)) % (10 : Int32) = (8 : Int32) ∨ (x &&& (2147483647 : Int32)) % (10 : Int32) = (9 : Int32) := by
  have hm : (x &&& (2147483647 : Int32)).toInt = x.toInt % 2 ^ 31 := Jvm.Kit.i32_mask x 2147483647 (k := 31) (by decide) (by decide)
  have h : ((x &&& (2147483647 : Int32)) % (10 : Int32)).toInt = (x.toInt % 2 ^ 31) % 10 := by
    rw [Int32.toInt_mod, hm]
    exact Int.tmod_eq_emod_of_nonneg (by omega)
  simp only [← Int32.toInt_inj, h, Int32.reduceToInt]
  omega
theorem ef_1_0 (m : MethodId)  : entryFrame m #[(.int (0 : Int32))] 1 = mkF m 0 #[.val (.int (0 : Int32))] [] := by first | (simp [entryFrame, mkF, argsToLocals, Value.category]; done) | rfl
theorem pn_1 : plainName "com/example/murray_hill/murrayhill/store/RunStatusIsFinalPinLaw" = true := by first | (simp [plainName, overriddenIn]; done) | decide +kernel
abbrev LS_I (a0 : Int32) : Array Slot := #[.val (.int a0)]
theorem d1_0 : decode method_3_code 0 = .ok (.iload_n 0, 1) := by decide +kernel
theorem d1_1 : decode method_3_code 1 = .ok (.ifCond .ne 7, 3) := by decide +kernel
theorem d1_4 : decode method_3_code 4 = .ok (.getstatic 20, 3) := by decide +kernel
theorem d1_7 : decode method_3_code 7 = .ok (.areturn, 1) := by decide +kernel
def Q1_0 (Z : State) (w0 : Addr) (h0 : Heap) (n0 : Nat) (v : Option Value) (h : Heap) (L : List Loc) : Prop := v = some (.ref w0) ∧ Fr n0 L ∧ h = h0
set_option maxRecDepth 65536 in
set_option maxHeartbeats 40000000 in
theorem rm1_0 (l : Launch) (Z : State) (a0 : Array Value) (hw : ∀ d ∈ tables_1, d.before a0 Z = true) (ws : List Jvm.Cond) (w0 : Addr) (h0 : Heap) (n0 : Nat) (Z0 : n0 ≤ h0.size) (S0 : Sta Z h0 "com/example/murray_hill/murrayhill/store/RunStatus" "QUEUED" "Lcom/example/murray_hill/murrayhill/store/RunStatus;" (.ref w0)) :
    MetFree l (⟨"com/example/murray_hill/murrayhill/store/RunStatusIsFinalPinLaw", "pick", "(I)Lcom/example/murray_hill/murrayhill/store/RunStatus;"⟩ : MethodName) (head1 (Jvm.Cond.code (⟨"com/example/murray_hill/murrayhill/store/RunStatusIsFinalPinLaw", "pick", "(I)Lcom/example/murray_hill/murrayhill/store/RunStatus;"⟩ : MethodName) method_3_code 1 (some (.object "com/example/murray_hill/murrayhill/store/RunStatus")) :: ws) ({ frames := 0, cells := 0, slots := 0, locals := 0 } : Room)) (fun a U => a = #[(.int (0 : Int32))] ∧ Z.Warmed39 U.vm ∧ U.heap = h0) (fun _ _ _ _ _ => True) (fun _ U o U' => ∃ v L, o = .returned v ∧ Q1_0 Z w0 h0 n0 v U'.heap L ∧ FrameEnd U o U' L ({ frames := 0, cells := 0, slots := 0, locals := 0 } : Room).cells ({ frames := 0, cells := 0, slots := 0, locals := 0 } : Room).slots) := by
  refine MetFree.of_bodySF (plainFor_of_name pn_1) hisR ?_
  intro p e s m args below meth c s₁ Bd hml0 hP hK
  obtain ⟨rfl, hZ, hh⟩ := hP
  have hx := Bd.exec
  have hby := Bd.bytes
  have hml : c.maxLocals = 1 := hml0
  have hown : s.vm.findClass "com/example/murray_hill/murrayhill/store/RunStatusIsFinalPinLaw" = some m.cls := findClass_of_methodNamed Bd.named
  have hnm := (name_of_methodNamed Bd.named Bd.method).1
  have X0 : Stand p l e ({ frames := 0, cells := 0, slots := 0, locals := 0 } : Room) s m #[(.int (0 : Int32))] below meth c s₁ [] 0 0 := Stand.of_body Bd
  have e0 : s₁.heap = h0 := by rw [← hh, Bd.state]; rfl
  have N0 := Fr.nil n0
  refine own_go (B := s₁.setTop (mkF m 0 (LS_I (0 : Int32)) [])) (fun t k => castTop (ef_1_0 m ) k) ?_
  refine own_go (B := s₁.setTop (mkF m 4 (LS_I (0 : Int32)) [])) (fun t k => ?_) ?_
  · show Steps p.tables e below (s₁.setTop (mkF m 0 (LS_I (0 : Int32)) [])) _
    refine XS.iloadN X0.here hx rfl (hb hby d1_0) rfl ?_
    show Steps p.tables e below (s₁.setTop (mkF m 1 (LS_I (0 : Int32)) [(.int (0 : Int32))])) _
    refine XS.ifNo X0.here hx rfl (hb hby d1_1) rfl ((if0 _ _).trans (teq (by decide : (0 : Int32) = (0 : Int32))).2) ?_
    exact k
  obtain ⟨T1, X1, e1, st1⟩ := getS2 X0 hx hZ hown (host := "") (Or.inl (hw _ (List.mem_of_getElem? (i := 5) rfl))) Via.refl e0 S0 (g := (mkF m 4 (LS_I (0 : Int32)) [])) rfl (hb hby d1_4)
  refine own_go (B := T1.setTop (mkF m 7 (LS_I (0 : Int32)) [(.ref w0)])) (fun t k => st1 _ k) ?_
  obtain ⟨fs, hr, hrun, hended, hW, hsame⟩ := X1.leave (v := some (.ref w0)) (fun h => by rw [Bd.returns] at h; cases h)
  refine ⟨_, _, ?_, hrun, hended, _, _, rfl, ?_, ⟨_, rfl⟩, hW, hsame.mono (by decide) (by decide)⟩
  · show Steps p.tables e below (T1.setTop (mkF m 7 (LS_I (0 : Int32)) [(.ref w0)])) _
    exact retOut X1 hx Bd.returns rfl (Or.inr (Or.inr (Or.inr (Or.inr ⟨rfl, rfl, rfl⟩)))) (hb hby d1_7) hr
  · show Q1_0 Z w0 h0 n0 _ T1.heap _
    rw [e1]
    exact ⟨rfl, N0, rfl⟩
theorem ef_1_1 (m : MethodId)  : entryFrame m #[(.int (1 : Int32))] 1 = mkF m 0 #[.val (.int (1 : Int32))] [] := by first | (simp [entryFrame, mkF, argsToLocals, Value.category]; done) | rfl
theorem d1_8 : decode method_3_code 8 = .ok (.iload_n 0, 1) := by decide +kernel
theorem d1_9 : decode method_3_code 9 = .ok (.iconst 1, 1) := by decide +kernel
theorem d1_10 : decode method_3_code 10 = .ok (.if_icmp .ne 7, 3) := by decide +kernel
theorem d1_13 : decode method_3_code 13 = .ok (.getstatic 24, 3) := by decide +kernel
theorem d1_16 : decode method_3_code 16 = .ok (.areturn, 1) := by decide +kernel
def Q1_1 (Z : State) (w0 : Addr) (h0 : Heap) (n0 : Nat) (v : Option Value) (h : Heap) (L : List Loc) : Prop := v = some (.ref w0) ∧ Fr n0 L ∧ h = h0
set_option maxRecDepth 65536 in
set_option maxHeartbeats 40000000 in
theorem rm1_1 (l : Launch) (Z : State) (a0 : Array Value) (hw : ∀ d ∈ tables_1, d.before a0 Z = true) (ws : List Jvm.Cond) (w0 : Addr) (h0 : Heap) (n0 : Nat) (Z0 : n0 ≤ h0.size) (S0 : Sta Z h0 "com/example/murray_hill/murrayhill/store/RunStatus" "RUNNING" "Lcom/example/murray_hill/murrayhill/store/RunStatus;" (.ref w0)) :
    MetFree l (⟨"com/example/murray_hill/murrayhill/store/RunStatusIsFinalPinLaw", "pick", "(I)Lcom/example/murray_hill/murrayhill/store/RunStatus;"⟩ : MethodName) (head1 (Jvm.Cond.code (⟨"com/example/murray_hill/murrayhill/store/RunStatusIsFinalPinLaw", "pick", "(I)Lcom/example/murray_hill/murrayhill/store/RunStatus;"⟩ : MethodName) method_3_code 1 (some (.object "com/example/murray_hill/murrayhill/store/RunStatus")) :: ws) ({ frames := 0, cells := 0, slots := 0, locals := 0 } : Room)) (fun a U => a = #[(.int (1 : Int32))] ∧ Z.Warmed39 U.vm ∧ U.heap = h0) (fun _ _ _ _ _ => True) (fun _ U o U' => ∃ v L, o = .returned v ∧ Q1_1 Z w0 h0 n0 v U'.heap L ∧ FrameEnd U o U' L ({ frames := 0, cells := 0, slots := 0, locals := 0 } : Room).cells ({ frames := 0, cells := 0, slots := 0, locals := 0 } : Room).slots) := by
  refine MetFree.of_bodySF (plainFor_of_name pn_1) hisR ?_
  intro p e s m args below meth c s₁ Bd hml0 hP hK
  obtain ⟨rfl, hZ, hh⟩ := hP
  have hx := Bd.exec
  have hby := Bd.bytes
  have hml : c.maxLocals = 1 := hml0
  have hown : s.vm.findClass "com/example/murray_hill/murrayhill/store/RunStatusIsFinalPinLaw" = some m.cls := findClass_of_methodNamed Bd.named
  have hnm := (name_of_methodNamed Bd.named Bd.method).1
  have X0 : Stand p l e ({ frames := 0, cells := 0, slots := 0, locals := 0 } : Room) s m #[(.int (1 : Int32))] below meth c s₁ [] 0 0 := Stand.of_body Bd
  have e0 : s₁.heap = h0 := by rw [← hh, Bd.state]; rfl
  have N0 := Fr.nil n0
  refine own_go (B := s₁.setTop (mkF m 0 (LS_I (1 : Int32)) [])) (fun t k => castTop (ef_1_1 m ) k) ?_
  refine own_go (B := s₁.setTop (mkF m 13 (LS_I (1 : Int32)) [])) (fun t k => ?_) ?_
  · show Steps p.tables e below (s₁.setTop (mkF m 0 (LS_I (1 : Int32)) [])) _
    refine XS.iloadN X0.here hx rfl (hb hby d1_0) rfl ?_
    show Steps p.tables e below (s₁.setTop (mkF m 1 (LS_I (1 : Int32)) [(.int (1 : Int32))])) _
    refine XS.ifYes X0.here hx rfl (pc0 := 1) (pc' := 8) rfl (hb hby d1_1) rfl ((if0 _ _).trans (feq (by decide : ¬ ((1 : Int32) = (0 : Int32)))).2) (by decide) (by decide) ?_
    show Steps p.tables e below (s₁.setTop (mkF m 8 (LS_I (1 : Int32)) [])) _
    refine XS.iloadN X0.here hx rfl (hb hby d1_8) rfl ?_
    show Steps p.tables e below (s₁.setTop (mkF m 9 (LS_I (1 : Int32)) [(.int (1 : Int32))])) _
    refine XS.iconst X0.here hx rfl (hb hby d1_9) ?_
    show Steps p.tables e below (s₁.setTop (mkF m 10 (LS_I (1 : Int32)) [(.int (1 : Int32)), (.int (1 : Int32))])) _
    refine XS.icmpNo X0.here hx rfl (hb hby d1_10) rfl (teq (by decide : (1 : Int32) = (1 : Int32))).2 ?_
    exact k
  obtain ⟨T1, X1, e1, st1⟩ := getS2 X0 hx hZ hown (host := "") (Or.inl (hw _ (List.mem_of_getElem? (i := 24) rfl))) Via.refl e0 S0 (g := (mkF m 13 (LS_I (1 : Int32)) [])) rfl (hb hby d1_13)
  refine own_go (B := T1.setTop (mkF m 16 (LS_I (1 : Int32)) [(.ref w0)])) (fun t k => st1 _ k) ?_
  obtain ⟨fs, hr, hrun, hended, hW, hsame⟩ := X1.leave (v := some (.ref w0)) (fun h => by rw [Bd.returns] at h; cases h)
  refine ⟨_, _, ?_, hrun, hended, _, _, rfl, ?_, ⟨_, rfl⟩, hW, hsame.mono (by decide) (by decide)⟩
  · show Steps p.tables e below (T1.setTop (mkF m 16 (LS_I (1 : Int32)) [(.ref w0)])) _
    exact retOut X1 hx Bd.returns rfl (Or.inr (Or.inr (Or.inr (Or.inr ⟨rfl, rfl, rfl⟩)))) (hb hby d1_16) hr
  · show Q1_1 Z w0 h0 n0 _ T1.heap _
    rw [e1]
    exact ⟨rfl, N0, rfl⟩
theorem ef_1_2 (m : MethodId)  : entryFrame m #[(.int (2 : Int32))] 1 = mkF m 0 #[.val (.int (2 : Int32))] [] := by first | (simp [entryFrame, mkF, argsToLocals, Value.category]; done) | rfl
theorem d1_17 : decode method_3_code 17 = .ok (.iload_n 0, 1) := by decide +kernel
theorem d1_18 : decode method_3_code 18 = .ok (.iconst 2, 1) := by decide +kernel
theorem d1_19 : decode method_3_code 19 = .ok (.if_icmp .ne 7, 3) := by decide +kernel
theorem d1_22 : decode method_3_code 22 = .ok (.getstatic 27, 3) := by decide +kernel
theorem d1_25 : decode method_3_code 25 = .ok (.areturn, 1) := by decide +kernel
def Q1_2 (Z : State) (w0 : Addr) (h0 : Heap) (n0 : Nat) (v : Option Value) (h : Heap) (L : List Loc) : Prop := v = some (.ref w0) ∧ Fr n0 L ∧ h = h0
set_option maxRecDepth 65536 in
set_option maxHeartbeats 40000000 in
theorem rm1_2 (l : Launch) (Z : State) (a0 : Array Value) (hw : ∀ d ∈ tables_1, d.before a0 Z = true) (ws : List Jvm.Cond) (w0 : Addr) (h0 : Heap) (n0 : Nat) (Z0 : n0 ≤ h0.size) (S0 : Sta Z h0 "com/example/murray_hill/murrayhill/store/RunStatus" "RETRYING" "Lcom/example/murray_hill/murrayhill/store/RunStatus;" (.ref w0)) :
    MetFree l (⟨"com/example/murray_hill/murrayhill/store/RunStatusIsFinalPinLaw", "pick", "(I)Lcom/example/murray_hill/murrayhill/store/RunStatus;"⟩ : MethodName) (head1 (Jvm.Cond.code (⟨"com/example/murray_hill/murrayhill/store/RunStatusIsFinalPinLaw", "pick", "(I)Lcom/example/murray_hill/murrayhill/store/RunStatus;"⟩ : MethodName) method_3_code 1 (some (.object "com/example/murray_hill/murrayhill/store/RunStatus")) :: ws) ({ frames := 0, cells := 0, slots := 0, locals := 0 } : Room)) (fun a U => a = #[(.int (2 : Int32))] ∧ Z.Warmed39 U.vm ∧ U.heap = h0) (fun _ _ _ _ _ => True) (fun _ U o U' => ∃ v L, o = .returned v ∧ Q1_2 Z w0 h0 n0 v U'.heap L ∧ FrameEnd U o U' L ({ frames := 0, cells := 0, slots := 0, locals := 0 } : Room).cells ({ frames := 0, cells := 0, slots := 0, locals := 0 } : Room).slots) := by
  refine MetFree.of_bodySF (plainFor_of_name pn_1) hisR ?_
  intro p e s m args below meth c s₁ Bd hml0 hP hK
  obtain ⟨rfl, hZ, hh⟩ := hP
  have hx := Bd.exec
  have hby := Bd.bytes
  have hml : c.maxLocals = 1 := hml0
  have hown : s.vm.findClass "com/example/murray_hill/murrayhill/store/RunStatusIsFinalPinLaw" = some m.cls := findClass_of_methodNamed Bd.named
  have hnm := (name_of_methodNamed Bd.named Bd.method).1
  have X0 : Stand p l e ({ frames := 0, cells := 0, slots := 0, locals := 0 } : Room) s m #[(.int (2 : Int32))] below meth c s₁ [] 0 0 := Stand.of_body Bd
  have e0 : s₁.heap = h0 := by rw [← hh, Bd.state]; rfl
  have N0 := Fr.nil n0
  refine own_go (B := s₁.setTop (mkF m 0 (LS_I (2 : Int32)) [])) (fun t k => castTop (ef_1_2 m ) k) ?_
  refine own_go (B := s₁.setTop (mkF m 22 (LS_I (2 : Int32)) [])) (fun t k => ?_) ?_
  · show Steps p.tables e below (s₁.setTop (mkF m 0 (LS_I (2 : Int32)) [])) _
    refine XS.iloadN X0.here hx rfl (hb hby d1_0) rfl ?_
    show Steps p.tables e below (s₁.setTop (mkF m 1 (LS_I (2 : Int32)) [(.int (2 : Int32))])) _
    refine XS.ifYes X0.here hx rfl (pc0 := 1) (pc' := 8) rfl (hb hby d1_1) rfl ((if0 _ _).trans (feq (by decide : ¬ ((2 : Int32) = (0 : Int32)))).2) (by decide) (by decide) ?_
    show Steps p.tables e below (s₁.setTop (mkF m 8 (LS_I (2 : Int32)) [])) _
    refine XS.iloadN X0.here hx rfl (hb hby d1_8) rfl ?_
    show Steps p.tables e below (s₁.setTop (mkF m 9 (LS_I (2 : Int32)) [(.int (2 : Int32))])) _
    refine XS.iconst X0.here hx rfl (hb hby d1_9) ?_
    show Steps p.tables e below (s₁.setTop (mkF m 10 (LS_I (2 : Int32)) [(.int (1 : Int32)), (.int (2 : Int32))])) _
    refine XS.icmpYes X0.here hx rfl (pc0 := 10) (pc' := 17) rfl (hb hby d1_10) rfl (feq (by decide : ¬ ((2 : Int32) = (1 : Int32)))).2 (by decide) (by decide) ?_
    show Steps p.tables e below (s₁.setTop (mkF m 17 (LS_I (2 : Int32)) [])) _
    refine XS.iloadN X0.here hx rfl (hb hby d1_17) rfl ?_
    show Steps p.tables e below (s₁.setTop (mkF m 18 (LS_I (2 : Int32)) [(.int (2 : Int32))])) _
    refine XS.iconst X0.here hx rfl (hb hby d1_18) ?_
    show Steps p.tables e below (s₁.setTop (mkF m 19 (LS_I (2 : Int32)) [(.int (2 : Int32)), (.int (2 : Int32))])) _
    refine XS.icmpNo X0.here hx rfl (hb hby d1_19) rfl (teq (by decide : (2 : Int32) = (2 : Int32))).2 ?_
    exact k
  obtain ⟨T1, X1, e1, st1⟩ := getS2 X0 hx hZ hown (host := "") (Or.inl (hw _ (List.mem_of_getElem? (i := 30) rfl))) Via.refl e0 S0 (g := (mkF m 22 (LS_I (2 : Int32)) [])) rfl (hb hby d1_22)
  refine own_go (B := T1.setTop (mkF m 25 (LS_I (2 : Int32)) [(.ref w0)])) (fun t k => st1 _ k) ?_
  obtain ⟨fs, hr, hrun, hended, hW, hsame⟩ := X1.leave (v := some (.ref w0)) (fun h => by rw [Bd.returns] at h; cases h)
  refine ⟨_, _, ?_, hrun, hended, _, _, rfl, ?_, ⟨_, rfl⟩, hW, hsame.mono (by decide) (by decide)⟩
  · show Steps p.tables e below (T1.setTop (mkF m 25 (LS_I (2 : Int32)) [(.ref w0)])) _
    exact retOut X1 hx Bd.returns rfl (Or.inr (Or.inr (Or.inr (Or.inr ⟨rfl, rfl, rfl⟩)))) (hb hby d1_25) hr
  · show Q1_2 Z w0 h0 n0 _ T1.heap _
    rw [e1]
    exact ⟨rfl, N0, rfl⟩
theorem ef_1_3 (m : MethodId)  : entryFrame m #[(.int (3 : Int32))] 1 = mkF m 0 #[.val (.int (3 : Int32))] [] := by first | (simp [entryFrame, mkF, argsToLocals, Value.category]; done) | rfl
theorem d1_26 : decode method_3_code 26 = .ok (.iload_n 0, 1) := by decide +kernel
theorem d1_27 : decode method_3_code 27 = .ok (.iconst 3, 1) := by decide +kernel
theorem d1_28 : decode method_3_code 28 = .ok (.if_icmp .ne 7, 3) := by decide +kernel
theorem d1_31 : decode method_3_code 31 = .ok (.getstatic 30, 3) := by decide +kernel
theorem d1_34 : decode method_3_code 34 = .ok (.areturn, 1) := by decide +kernel
def Q1_3 (Z : State) (w0 : Addr) (h0 : Heap) (n0 : Nat) (v : Option Value) (h : Heap) (L : List Loc) : Prop := v = some (.ref w0) ∧ Fr n0 L ∧ h = h0
set_option maxRecDepth 65536 in
set_option maxHeartbeats 40000000 in
theorem rm1_3 (l : Launch) (Z : State) (a0 : Array Value) (hw : ∀ d ∈ tables_1, d.before a0 Z = true) (ws : List Jvm.Cond) (w0 : Addr) (h0 : Heap) (n0 : Nat) (Z0 : n0 ≤ h0.size) (S0 : Sta Z h0 "com/example/murray_hill/murrayhill/store/RunStatus" "SUCCEEDED" "Lcom/example/murray_hill/murrayhill/store/RunStatus;" (.ref w0)) :
    MetFree l (⟨"com/example/murray_hill/murrayhill/store/RunStatusIsFinalPinLaw", "pick", "(I)Lcom/example/murray_hill/murrayhill/store/RunStatus;"⟩ : MethodName) (head1 (Jvm.Cond.code (⟨"com/example/murray_hill/murrayhill/store/RunStatusIsFinalPinLaw", "pick", "(I)Lcom/example/murray_hill/murrayhill/store/RunStatus;"⟩ : MethodName) method_3_code 1 (some (.object "com/example/murray_hill/murrayhill/store/RunStatus")) :: ws) ({ frames := 0, cells := 0, slots := 0, locals := 0 } : Room)) (fun a U => a = #[(.int (3 : Int32))] ∧ Z.Warmed39 U.vm ∧ U.heap = h0) (fun _ _ _ _ _ => True) (fun _ U o U' => ∃ v L, o = .returned v ∧ Q1_3 Z w0 h0 n0 v U'.heap L ∧ FrameEnd U o U' L ({ frames := 0, cells := 0, slots := 0, locals := 0 } : Room).cells ({ frames := 0, cells := 0, slots := 0, locals := 0 } : Room).slots) := by
  refine MetFree.of_bodySF (plainFor_of_name pn_1) hisR ?_
  intro p e s m args below meth c s₁ Bd hml0 hP hK
  obtain ⟨rfl, hZ, hh⟩ := hP
  have hx := Bd.exec
  have hby := Bd.bytes
  have hml : c.maxLocals = 1 := hml0
  have hown : s.vm.findClass "com/example/murray_hill/murrayhill/store/RunStatusIsFinalPinLaw" = some m.cls := findClass_of_methodNamed Bd.named
  have hnm := (name_of_methodNamed Bd.named Bd.method).1
  have X0 : Stand p l e ({ frames := 0, cells := 0, slots := 0, locals := 0 } : Room) s m #[(.int (3 : Int32))] below meth c s₁ [] 0 0 := Stand.of_body Bd
  have e0 : s₁.heap = h0 := by rw [← hh, Bd.state]; rfl
  have N0 := Fr.nil n0
  refine own_go (B := s₁.setTop (mkF m 0 (LS_I (3 : Int32)) [])) (fun t k => castTop (ef_1_3 m ) k) ?_
  refine own_go (B := s₁.setTop (mkF m 31 (LS_I (3 : Int32)) [])) (fun t k => ?_) ?_
  · show Steps p.tables e below (s₁.setTop (mkF m 0 (LS_I (3 : Int32)) [])) _
    refine XS.iloadN X0.here hx rfl (hb hby d1_0) rfl ?_
    show Steps p.tables e below (s₁.setTop (mkF m 1 (LS_I (3 : Int32)) [(.int (3 : Int32))])) _
    refine XS.ifYes X0.here hx rfl (pc0 := 1) (pc' := 8) rfl (hb hby d1_1) rfl ((if0 _ _).trans (feq (by decide : ¬ ((3 : Int32) = (0 : Int32)))).2) (by decide) (by decide) ?_
    show Steps p.tables e below (s₁.setTop (mkF m 8 (LS_I (3 : Int32)) [])) _
    refine XS.iloadN X0.here hx rfl (hb hby d1_8) rfl ?_
    show Steps p.tables e below (s₁.setTop (mkF m 9 (LS_I (3 : Int32)) [(.int (3 : Int32))])) _
    refine XS.iconst X0.here hx rfl (hb hby d1_9) ?_
    show Steps p.tables e below (s₁.setTop (mkF m 10 (LS_I (3 : Int32)) [(.int (1 : Int32)), (.int (3 : Int32))])) _
    refine XS.icmpYes X0.here hx rfl (pc0 := 10) (pc' := 17) rfl (hb hby d1_10) rfl (feq (by decide : ¬ ((3 : Int32) = (1 : Int32)))).2 (by decide) (by decide) ?_
    show Steps p.tables e below (s₁.setTop (mkF m 17 (LS_I (3 : Int32)) [])) _
    refine XS.iloadN X0.here hx rfl (hb hby d1_17) rfl ?_
    show Steps p.tables e below (s₁.setTop (mkF m 18 (LS_I (3 : Int32)) [(.int (3 : Int32))])) _
    refine XS.iconst X0.here hx rfl (hb hby d1_18) ?_
    show Steps p.tables e below (s₁.setTop (mkF m 19 (LS_I (3 : Int32)) [(.int (2 : Int32)), (.int (3 : Int32))])) _
    refine XS.icmpYes X0.here hx rfl (pc0 := 19) (pc' := 26) rfl (hb hby d1_19) rfl (feq (by decide : ¬ ((3 : Int32) = (2 : Int32)))).2 (by decide) (by decide) ?_
    show Steps p.tables e below (s₁.setTop (mkF m 26 (LS_I (3 : Int32)) [])) _
    refine XS.iloadN X0.here hx rfl (hb hby d1_26) rfl ?_
    show Steps p.tables e below (s₁.setTop (mkF m 27 (LS_I (3 : Int32)) [(.int (3 : Int32))])) _
    refine XS.iconst X0.here hx rfl (hb hby d1_27) ?_
    show Steps p.tables e below (s₁.setTop (mkF m 28 (LS_I (3 : Int32)) [(.int (3 : Int32)), (.int (3 : Int32))])) _
    refine XS.icmpNo X0.here hx rfl (hb hby d1_28) rfl (teq (by decide : (3 : Int32) = (3 : Int32))).2 ?_
    exact k
  obtain ⟨T1, X1, e1, st1⟩ := getS2 X0 hx hZ hown (host := "") (Or.inl (hw _ (List.mem_of_getElem? (i := 22) rfl))) Via.refl e0 S0 (g := (mkF m 31 (LS_I (3 : Int32)) [])) rfl (hb hby d1_31)
  refine own_go (B := T1.setTop (mkF m 34 (LS_I (3 : Int32)) [(.ref w0)])) (fun t k => st1 _ k) ?_
  obtain ⟨fs, hr, hrun, hended, hW, hsame⟩ := X1.leave (v := some (.ref w0)) (fun h => by rw [Bd.returns] at h; cases h)
  refine ⟨_, _, ?_, hrun, hended, _, _, rfl, ?_, ⟨_, rfl⟩, hW, hsame.mono (by decide) (by decide)⟩
  · show Steps p.tables e below (T1.setTop (mkF m 34 (LS_I (3 : Int32)) [(.ref w0)])) _
    exact retOut X1 hx Bd.returns rfl (Or.inr (Or.inr (Or.inr (Or.inr ⟨rfl, rfl, rfl⟩)))) (hb hby d1_34) hr
  · show Q1_3 Z w0 h0 n0 _ T1.heap _
    rw [e1]
    exact ⟨rfl, N0, rfl⟩
theorem ef_1_4 (m : MethodId)  : entryFrame m #[(.int (4 : Int32))] 1 = mkF m 0 #[.val (.int (4 : Int32))] [] := by first | (simp [entryFrame, mkF, argsToLocals, Value.category]; done) | rfl
theorem d1_35 : decode method_3_code 35 = .ok (.iload_n 0, 1) := by decide +kernel
theorem d1_36 : decode method_3_code 36 = .ok (.iconst 4, 1) := by decide +kernel
theorem d1_37 : decode method_3_code 37 = .ok (.if_icmp .ne 7, 3) := by decide +kernel
theorem d1_40 : decode method_3_code 40 = .ok (.getstatic 33, 3) := by decide +kernel
theorem d1_43 : decode method_3_code 43 = .ok (.areturn, 1) := by decide +kernel
def Q1_4 (Z : State) (w0 : Addr) (h0 : Heap) (n0 : Nat) (v : Option Value) (h : Heap) (L : List Loc) : Prop := v = some (.ref w0) ∧ Fr n0 L ∧ h = h0
set_option maxRecDepth 65536 in
set_option maxHeartbeats 40000000 in
theorem rm1_4 (l : Launch) (Z : State) (a0 : Array Value) (hw : ∀ d ∈ tables_1, d.before a0 Z = true) (ws : List Jvm.Cond) (w0 : Addr) (h0 : Heap) (n0 : Nat) (Z0 : n0 ≤ h0.size) (S0 : Sta Z h0 "com/example/murray_hill/murrayhill/store/RunStatus" "PARTIAL" "Lcom/example/murray_hill/murrayhill/store/RunStatus;" (.ref w0)) :
    MetFree l (⟨"com/example/murray_hill/murrayhill/store/RunStatusIsFinalPinLaw", "pick", "(I)Lcom/example/murray_hill/murrayhill/store/RunStatus;"⟩ : MethodName) (head1 (Jvm.Cond.code (⟨"com/example/murray_hill/murrayhill/store/RunStatusIsFinalPinLaw", "pick", "(I)Lcom/example/murray_hill/murrayhill/store/RunStatus;"⟩ : MethodName) method_3_code 1 (some (.object "com/example/murray_hill/murrayhill/store/RunStatus")) :: ws) ({ frames := 0, cells := 0, slots := 0, locals := 0 } : Room)) (fun a U => a = #[(.int (4 : Int32))] ∧ Z.Warmed39 U.vm ∧ U.heap = h0) (fun _ _ _ _ _ => True) (fun _ U o U' => ∃ v L, o = .returned v ∧ Q1_4 Z w0 h0 n0 v U'.heap L ∧ FrameEnd U o U' L ({ frames := 0, cells := 0, slots := 0, locals := 0 } : Room).cells ({ frames := 0, cells := 0, slots := 0, locals := 0 } : Room).slots) := by
  refine MetFree.of_bodySF (plainFor_of_name pn_1) hisR ?_
  intro p e s m args below meth c s₁ Bd hml0 hP hK
  obtain ⟨rfl, hZ, hh⟩ := hP
  have hx := Bd.exec
  have hby := Bd.bytes
  have hml : c.maxLocals = 1 := hml0
  have hown : s.vm.findClass "com/example/murray_hill/murrayhill/store/RunStatusIsFinalPinLaw" = some m.cls := findClass_of_methodNamed Bd.named
  have hnm := (name_of_methodNamed Bd.named Bd.method).1
  have X0 : Stand p l e ({ frames := 0, cells := 0, slots := 0, locals := 0 } : Room) s m #[(.int (4 : Int32))] below meth c s₁ [] 0 0 := Stand.of_body Bd
  have e0 : s₁.heap = h0 := by rw [← hh, Bd.state]; rfl
  have N0 := Fr.nil n0
  refine own_go (B := s₁.setTop (mkF m 0 (LS_I (4 : Int32)) [])) (fun t k => castTop (ef_1_4 m ) k) ?_
  refine own_go (B := s₁.setTop (mkF m 40 (LS_I (4 : Int32)) [])) (fun t k => ?_) ?_
  · show Steps p.tables e below (s₁.setTop (mkF m 0 (LS_I (4 : Int32)) [])) _
    refine XS.iloadN X0.here hx rfl (hb hby d1_0) rfl ?_
    show Steps p.tables e below (s₁.setTop (mkF m 1 (LS_I (4 : Int32)) [(.int (4 : Int32))])) _
    refine XS.ifYes X0.here hx rfl (pc0 := 1) (pc' := 8) rfl (hb hby d1_1) rfl ((if0 _ _).trans (feq (by decide : ¬ ((4 : Int32) = (0 : Int32)))).2) (by decide) (by decide) ?_
    show Steps p.tables e below (s₁.setTop (mkF m 8 (LS_I (4 : Int32)) [])) _
    refine XS.iloadN X0.here hx rfl (hb hby d1_8) rfl ?_
    show Steps p.tables e below (s₁.setTop (mkF m 9 (LS_I (4 : Int32)) [(.int (4 : Int32))])) _
    refine XS.iconst X0.here hx rfl (hb hby d1_9) ?_
    show Steps p.tables e below (s₁.setTop (mkF m 10 (LS_I (4 : Int32)) [(.int (1 : Int32)), (.int (4 : Int32))])) _
    refine XS.icmpYes X0.here hx rfl (pc0 := 10) (pc' := 17) rfl (hb hby d1_10) rfl (feq (by decide : ¬ ((4 : Int32) = (1 : Int32)))).2 (by decide) (by decide) ?_
    show Steps p.tables e below (s₁.setTop (mkF m 17 (LS_I (4 : Int32)) [])) _
    refine XS.iloadN X0.here hx rfl (hb hby d1_17) rfl ?_
    show Steps p.tables e below (s₁.setTop (mkF m 18 (LS_I (4 : Int32)) [(.int (4 : Int32))])) _
    refine XS.iconst X0.here hx rfl (hb hby d1_18) ?_
    show Steps p.tables e below (s₁.setTop (mkF m 19 (LS_I (4 : Int32)) [(.int (2 : Int32)), (.int (4 : Int32))])) _
    refine XS.icmpYes X0.here hx rfl (pc0 := 19) (pc' := 26) rfl (hb hby d1_19) rfl (feq (by decide : ¬ ((4 : Int32) = (2 : Int32)))).2 (by decide) (by decide) ?_
    show Steps p.tables e below (s₁.setTop (mkF m 26 (LS_I (4 : Int32)) [])) _
    refine XS.iloadN X0.here hx rfl (hb hby d1_26) rfl ?_
    show Steps p.tables e below (s₁.setTop (mkF m 27 (LS_I (4 : Int32)) [(.int (4 : Int32))])) _
    refine XS.iconst X0.here hx rfl (hb hby d1_27) ?_
    show Steps p.tables e below (s₁.setTop (mkF m 28 (LS_I (4 : Int32)) [(.int (3 : Int32)), (.int (4 : Int32))])) _
    refine XS.icmpYes X0.here hx rfl (pc0 := 28) (pc' := 35) rfl (hb hby d1_28) rfl (feq (by decide : ¬ ((4 : Int32) = (3 : Int32)))).2 (by decide) (by decide) ?_
    show Steps p.tables e below (s₁.setTop (mkF m 35 (LS_I (4 : Int32)) [])) _
    refine XS.iloadN X0.here hx rfl (hb hby d1_35) rfl ?_
    show Steps p.tables e below (s₁.setTop (mkF m 36 (LS_I (4 : Int32)) [(.int (4 : Int32))])) _
    refine XS.iconst X0.here hx rfl (hb hby d1_36) ?_
    show Steps p.tables e below (s₁.setTop (mkF m 37 (LS_I (4 : Int32)) [(.int (4 : Int32)), (.int (4 : Int32))])) _
    refine XS.icmpNo X0.here hx rfl (hb hby d1_37) rfl (teq (by decide : (4 : Int32) = (4 : Int32))).2 ?_
    exact k
  obtain ⟨T1, X1, e1, st1⟩ := getS2 X0 hx hZ hown (host := "") (Or.inl (hw _ (List.mem_of_getElem? (i := 26) rfl))) Via.refl e0 S0 (g := (mkF m 40 (LS_I (4 : Int32)) [])) rfl (hb hby d1_40)
  refine own_go (B := T1.setTop (mkF m 43 (LS_I (4 : Int32)) [(.ref w0)])) (fun t k => st1 _ k) ?_
  obtain ⟨fs, hr, hrun, hended, hW, hsame⟩ := X1.leave (v := some (.ref w0)) (fun h => by rw [Bd.returns] at h; cases h)
  refine ⟨_, _, ?_, hrun, hended, _, _, rfl, ?_, ⟨_, rfl⟩, hW, hsame.mono (by decide) (by decide)⟩
  · show Steps p.tables e below (T1.setTop (mkF m 43 (LS_I (4 : Int32)) [(.ref w0)])) _
    exact retOut X1 hx Bd.returns rfl (Or.inr (Or.inr (Or.inr (Or.inr ⟨rfl, rfl, rfl⟩)))) (hb hby d1_43) hr
  · show Q1_4 Z w0 h0 n0 _ T1.heap _
    rw [e1]
    exact ⟨rfl, N0, rfl⟩
theorem ef_1_5 (m : MethodId)  : entryFrame m #[(.int (5 : Int32))] 1 = mkF m 0 #[.val (.int (5 : Int32))] [] := by first | (simp [entryFrame, mkF, argsToLocals, Value.category]; done) | rfl
theorem d1_44 : decode method_3_code 44 = .ok (.iload_n 0, 1) := by decide +kernel
theorem d1_45 : decode method_3_code 45 = .ok (.iconst 5, 1) := by decide +kernel
theorem d1_46 : decode method_3_code 46 = .ok (.if_icmp .ne 7, 3) := by decide +kernel
theorem d1_49 : decode method_3_code 49 = .ok (.getstatic 36, 3) := by decide +kernel
theorem d1_52 : decode method_3_code 52 = .ok (.areturn, 1) := by decide +kernel
def Q1_5 (Z : State) (w0 : Addr) (h0 : Heap) (n0 : Nat) (v : Option Value) (h : Heap) (L : List Loc) : Prop := v = some (.ref w0) ∧ Fr n0 L ∧ h = h0
set_option maxRecDepth 65536 in
set_option maxHeartbeats 40000000 in
theorem rm1_5 (l : Launch) (Z : State) (a0 : Array Value) (hw : ∀ d ∈ tables_1, d.before a0 Z = true) (ws : List Jvm.Cond) (w0 : Addr) (h0 : Heap) (n0 : Nat) (Z0 : n0 ≤ h0.size) (S0 : Sta Z h0 "com/example/murray_hill/murrayhill/store/RunStatus" "FAILED" "Lcom/example/murray_hill/murrayhill/store/RunStatus;" (.ref w0)) :
    MetFree l (⟨"com/example/murray_hill/murrayhill/store/RunStatusIsFinalPinLaw", "pick", "(I)Lcom/example/murray_hill/murrayhill/store/RunStatus;"⟩ : MethodName) (head1 (Jvm.Cond.code (⟨"com/example/murray_hill/murrayhill/store/RunStatusIsFinalPinLaw", "pick", "(I)Lcom/example/murray_hill/murrayhill/store/RunStatus;"⟩ : MethodName) method_3_code 1 (some (.object "com/example/murray_hill/murrayhill/store/RunStatus")) :: ws) ({ frames := 0, cells := 0, slots := 0, locals := 0 } : Room)) (fun a U => a = #[(.int (5 : Int32))] ∧ Z.Warmed39 U.vm ∧ U.heap = h0) (fun _ _ _ _ _ => True) (fun _ U o U' => ∃ v L, o = .returned v ∧ Q1_5 Z w0 h0 n0 v U'.heap L ∧ FrameEnd U o U' L ({ frames := 0, cells := 0, slots := 0, locals := 0 } : Room).cells ({ frames := 0, cells := 0, slots := 0, locals := 0 } : Room).slots) := by
  refine MetFree.of_bodySF (plainFor_of_name pn_1) hisR ?_
  intro p e s m args below meth c s₁ Bd hml0 hP hK
  obtain ⟨rfl, hZ, hh⟩ := hP
  have hx := Bd.exec
  have hby := Bd.bytes
  have hml : c.maxLocals = 1 := hml0
  have hown : s.vm.findClass "com/example/murray_hill/murrayhill/store/RunStatusIsFinalPinLaw" = some m.cls := findClass_of_methodNamed Bd.named
  have hnm := (name_of_methodNamed Bd.named Bd.method).1
  have X0 : Stand p l e ({ frames := 0, cells := 0, slots := 0, locals := 0 } : Room) s m #[(.int (5 : Int32))] below meth c s₁ [] 0 0 := Stand.of_body Bd
  have e0 : s₁.heap = h0 := by rw [← hh, Bd.state]; rfl
  have N0 := Fr.nil n0
  refine own_go (B := s₁.setTop (mkF m 0 (LS_I (5 : Int32)) [])) (fun t k => castTop (ef_1_5 m ) k) ?_
  refine own_go (B := s₁.setTop (mkF m 49 (LS_I (5 : Int32)) [])) (fun t k => ?_) ?_
  · show Steps p.tables e below (s₁.setTop (mkF m 0 (LS_I (5 : Int32)) [])) _
    refine XS.iloadN X0.here hx rfl (hb hby d1_0) rfl ?_
    show Steps p.tables e below (s₁.setTop (mkF m 1 (LS_I (5 : Int32)) [(.int (5 : Int32))])) _
    refine XS.ifYes X0.here hx rfl (pc0 := 1) (pc' := 8) rfl (hb hby d1_1) rfl ((if0 _ _).trans (feq (by decide : ¬ ((5 : Int32) = (0 : Int32)))).2) (by decide) (by decide) ?_
    show Steps p.tables e below (s₁.setTop (mkF m 8 (LS_I (5 : Int32)) [])) _
    refine XS.iloadN X0.here hx rfl (hb hby d1_8) rfl ?_
    show Steps p.tables e below (s₁.setTop (mkF m 9 (LS_I (5 : Int32)) [(.int (5 : Int32))])) _
    refine XS.iconst X0.here hx rfl (hb hby d1_9) ?_
    show Steps p.tables e below (s₁.setTop (mkF m 10 (LS_I (5 : Int32)) [(.int (1 : Int32)), (.int (5 : Int32))])) _
    refine XS.icmpYes X0.here hx rfl (pc0 := 10) (pc' := 17) rfl (hb hby d1_10) rfl (feq (by decide : ¬ ((5 : Int32) = (1 : Int32)))).2 (by decide) (by decide) ?_
    show Steps p.tables e below (s₁.setTop (mkF m 17 (LS_I (5 : Int32)) [])) _
    refine XS.iloadN X0.here hx rfl (hb hby d1_17) rfl ?_
    show Steps p.tables e below (s₁.setTop (mkF m 18 (LS_I (5 : Int32)) [(.int (5 : Int32))])) _
    refine XS.iconst X0.here hx rfl (hb hby d1_18) ?_
    show Steps p.tables e below (s₁.setTop (mkF m 19 (LS_I (5 : Int32)) [(.int (2 : Int32)), (.int (5 : Int32))])) _
    refine XS.icmpYes X0.here hx rfl (pc0 := 19) (pc' := 26) rfl (hb hby d1_19) rfl (feq (by decide : ¬ ((5 : Int32) = (2 : Int32)))).2 (by decide) (by decide) ?_
    show Steps p.tables e below (s₁.setTop (mkF m 26 (LS_I (5 : Int32)) [])) _
    refine XS.iloadN X0.here hx rfl (hb hby d1_26) rfl ?_
    show Steps p.tables e below (s₁.setTop (mkF m 27 (LS_I (5 : Int32)) [(.int (5 : Int32))])) _
    refine XS.iconst X0.here hx rfl (hb hby d1_27) ?_
    show Steps p.tables e below (s₁.setTop (mkF m 28 (LS_I (5 : Int32)) [(.int (3 : Int32)), (.int (5 : Int32))])) _
    refine XS.icmpYes X0.here hx rfl (pc0 := 28) (pc' := 35) rfl (hb hby d1_28) rfl (feq (by decide : ¬ ((5 : Int32) = (3 : Int32)))).2 (by decide) (by decide) ?_
    show Steps p.tables e below (s₁.setTop (mkF m 35 (LS_I (5 : Int32)) [])) _
    refine XS.iloadN X0.here hx rfl (hb hby d1_35) rfl ?_
    show Steps p.tables e below (s₁.setTop (mkF m 36 (LS_I (5 : Int32)) [(.int (5 : Int32))])) _
    refine XS.iconst X0.here hx rfl (hb hby d1_36) ?_
    show Steps p.tables e below (s₁.setTop (mkF m 37 (LS_I (5 : Int32)) [(.int (4 : Int32)), (.int (5 : Int32))])) _
    refine XS.icmpYes X0.here hx rfl (pc0 := 37) (pc' := 44) rfl (hb hby d1_37) rfl (feq (by decide : ¬ ((5 : Int32) = (4 : Int32)))).2 (by decide) (by decide) ?_
    show Steps p.tables e below (s₁.setTop (mkF m 44 (LS_I (5 : Int32)) [])) _
    refine XS.iloadN X0.here hx rfl (hb hby d1_44) rfl ?_
    show Steps p.tables e below (s₁.setTop (mkF m 45 (LS_I (5 : Int32)) [(.int (5 : Int32))])) _
    refine XS.iconst X0.here hx rfl (hb hby d1_45) ?_
    show Steps p.tables e below (s₁.setTop (mkF m 46 (LS_I (5 : Int32)) [(.int (5 : Int32)), (.int (5 : Int32))])) _
    refine XS.icmpNo X0.here hx rfl (hb hby d1_46) rfl (teq (by decide : (5 : Int32) = (5 : Int32))).2 ?_
    exact k
  obtain ⟨T1, X1, e1, st1⟩ := getS2 X0 hx hZ hown (host := "") (Or.inl (hw _ (List.mem_of_getElem? (i := 36) rfl))) Via.refl e0 S0 (g := (mkF m 49 (LS_I (5 : Int32)) [])) rfl (hb hby d1_49)
  refine own_go (B := T1.setTop (mkF m 52 (LS_I (5 : Int32)) [(.ref w0)])) (fun t k => st1 _ k) ?_
  obtain ⟨fs, hr, hrun, hended, hW, hsame⟩ := X1.leave (v := some (.ref w0)) (fun h => by rw [Bd.returns] at h; cases h)
  refine ⟨_, _, ?_, hrun, hended, _, _, rfl, ?_, ⟨_, rfl⟩, hW, hsame.mono (by decide) (by decide)⟩
  · show Steps p.tables e below (T1.setTop (mkF m 52 (LS_I (5 : Int32)) [(.ref w0)])) _
    exact retOut X1 hx Bd.returns rfl (Or.inr (Or.inr (Or.inr (Or.inr ⟨rfl, rfl, rfl⟩)))) (hb hby d1_52) hr
  · show Q1_5 Z w0 h0 n0 _ T1.heap _
    rw [e1]
    exact ⟨rfl, N0, rfl⟩
theorem ef_1_6 (m : MethodId)  : entryFrame m #[(.int (6 : Int32))] 1 = mkF m 0 #[.val (.int (6 : Int32))] [] := by first | (simp [entryFrame, mkF, argsToLocals, Value.category]; done) | rfl
theorem d1_53 : decode method_3_code 53 = .ok (.iload_n 0, 1) := by decide +kernel
theorem d1_54 : decode method_3_code 54 = .ok (.bipush 6, 2) := by decide +kernel
theorem d1_56 : decode method_3_code 56 = .ok (.if_icmp .ne 7, 3) := by decide +kernel
theorem d1_59 : decode method_3_code 59 = .ok (.getstatic 39, 3) := by decide +kernel
theorem d1_62 : decode method_3_code 62 = .ok (.areturn, 1) := by decide +kernel
def Q1_6 (Z : State) (w0 : Addr) (h0 : Heap) (n0 : Nat) (v : Option Value) (h : Heap) (L : List Loc) : Prop := v = some (.ref w0) ∧ Fr n0 L ∧ h = h0
set_option maxRecDepth 65536 in
set_option maxHeartbeats 40000000 in
theorem rm1_6 (l : Launch) (Z : State) (a0 : Array Value) (hw : ∀ d ∈ tables_1, d.before a0 Z = true) (ws : List Jvm.Cond) (w0 : Addr) (h0 : Heap) (n0 : Nat) (Z0 : n0 ≤ h0.size) (S0 : Sta Z h0 "com/example/murray_hill/murrayhill/store/RunStatus" "TIMED_OUT" "Lcom/example/murray_hill/murrayhill/store/RunStatus;" (.ref w0)) :
    MetFree l (⟨"com/example/murray_hill/murrayhill/store/RunStatusIsFinalPinLaw", "pick", "(I)Lcom/example/murray_hill/murrayhill/store/RunStatus;"⟩ : MethodName) (head1 (Jvm.Cond.code (⟨"com/example/murray_hill/murrayhill/store/RunStatusIsFinalPinLaw", "pick", "(I)Lcom/example/murray_hill/murrayhill/store/RunStatus;"⟩ : MethodName) method_3_code 1 (some (.object "com/example/murray_hill/murrayhill/store/RunStatus")) :: ws) ({ frames := 0, cells := 0, slots := 0, locals := 0 } : Room)) (fun a U => a = #[(.int (6 : Int32))] ∧ Z.Warmed39 U.vm ∧ U.heap = h0) (fun _ _ _ _ _ => True) (fun _ U o U' => ∃ v L, o = .returned v ∧ Q1_6 Z w0 h0 n0 v U'.heap L ∧ FrameEnd U o U' L ({ frames := 0, cells := 0, slots := 0, locals := 0 } : Room).cells ({ frames := 0, cells := 0, slots := 0, locals := 0 } : Room).slots) := by
  refine MetFree.of_bodySF (plainFor_of_name pn_1) hisR ?_
  intro p e s m args below meth c s₁ Bd hml0 hP hK
  obtain ⟨rfl, hZ, hh⟩ := hP
  have hx := Bd.exec
  have hby := Bd.bytes
  have hml : c.maxLocals = 1 := hml0
  have hown : s.vm.findClass "com/example/murray_hill/murrayhill/store/RunStatusIsFinalPinLaw" = some m.cls := findClass_of_methodNamed Bd.named
  have hnm := (name_of_methodNamed Bd.named Bd.method).1
  have X0 : Stand p l e ({ frames := 0, cells := 0, slots := 0, locals := 0 } : Room) s m #[(.int (6 : Int32))] below meth c s₁ [] 0 0 := Stand.of_body Bd
  have e0 : s₁.heap = h0 := by rw [← hh, Bd.state]; rfl
  have N0 := Fr.nil n0
  refine own_go (B := s₁.setTop (mkF m 0 (LS_I (6 : Int32)) [])) (fun t k => castTop (ef_1_6 m ) k) ?_
  refine own_go (B := s₁.setTop (mkF m 59 (LS_I (6 : Int32)) [])) (fun t k => ?_) ?_
  · show Steps p.tables e below (s₁.setTop (mkF m 0 (LS_I (6 : Int32)) [])) _
    refine XS.iloadN X0.here hx rfl (hb hby d1_0) rfl ?_
    show Steps p.tables e below (s₁.setTop (mkF m 1 (LS_I (6 : Int32)) [(.int (6 : Int32))])) _
    refine XS.ifYes X0.here hx rfl (pc0 := 1) (pc' := 8) rfl (hb hby d1_1) rfl ((if0 _ _).trans (feq (by decide : ¬ ((6 : Int32) = (0 : Int32)))).2) (by decide) (by decide) ?_
    show Steps p.tables e below (s₁.setTop (mkF m 8 (LS_I (6 : Int32)) [])) _
    refine XS.iloadN X0.here hx rfl (hb hby d1_8) rfl ?_
    show Steps p.tables e below (s₁.setTop (mkF m 9 (LS_I (6 : Int32)) [(.int (6 : Int32))])) _
    refine XS.iconst X0.here hx rfl (hb hby d1_9) ?_
    show Steps p.tables e below (s₁.setTop (mkF m 10 (LS_I (6 : Int32)) [(.int (1 : Int32)), (.int (6 : Int32))])) _
    refine XS.icmpYes X0.here hx rfl (pc0 := 10) (pc' := 17) rfl (hb hby d1_10) rfl (feq (by decide : ¬ ((6 : Int32) = (1 : Int32)))).2 (by decide) (by decide) ?_
    show Steps p.tables e below (s₁.setTop (mkF m 17 (LS_I (6 : Int32)) [])) _
    refine XS.iloadN X0.here hx rfl (hb hby d1_17) rfl ?_
    show Steps p.tables e below (s₁.setTop (mkF m 18 (LS_I (6 : Int32)) [(.int (6 : Int32))])) _
    refine XS.iconst X0.here hx rfl (hb hby d1_18) ?_
    show Steps p.tables e below (s₁.setTop (mkF m 19 (LS_I (6 : Int32)) [(.int (2 : Int32)), (.int (6 : Int32))])) _
    refine XS.icmpYes X0.here hx rfl (pc0 := 19) (pc' := 26) rfl (hb hby d1_19) rfl (feq (by decide : ¬ ((6 : Int32) = (2 : Int32)))).2 (by decide) (by decide) ?_
    show Steps p.tables e below (s₁.setTop (mkF m 26 (LS_I (6 : Int32)) [])) _
    refine XS.iloadN X0.here hx rfl (hb hby d1_26) rfl ?_
    show Steps p.tables e below (s₁.setTop (mkF m 27 (LS_I (6 : Int32)) [(.int (6 : Int32))])) _
    refine XS.iconst X0.here hx rfl (hb hby d1_27) ?_
    show Steps p.tables e below (s₁.setTop (mkF m 28 (LS_I (6 : Int32)) [(.int (3 : Int32)), (.int (6 : Int32))])) _
    refine XS.icmpYes X0.here hx rfl (pc0 := 28) (pc' := 35) rfl (hb hby d1_28) rfl (feq (by decide : ¬ ((6 : Int32) = (3 : Int32)))).2 (by decide) (by decide) ?_
    show Steps p.tables e below (s₁.setTop (mkF m 35 (LS_I (6 : Int32)) [])) _
    refine XS.iloadN X0.here hx rfl (hb hby d1_35) rfl ?_
    show Steps p.tables e below (s₁.setTop (mkF m 36 (LS_I (6 : Int32)) [(.int (6 : Int32))])) _
    refine XS.iconst X0.here hx rfl (hb hby d1_36) ?_
    show Steps p.tables e below (s₁.setTop (mkF m 37 (LS_I (6 : Int32)) [(.int (4 : Int32)), (.int (6 : Int32))])) _
    refine XS.icmpYes X0.here hx rfl (pc0 := 37) (pc' := 44) rfl (hb hby d1_37) rfl (feq (by decide : ¬ ((6 : Int32) = (4 : Int32)))).2 (by decide) (by decide) ?_
    show Steps p.tables e below (s₁.setTop (mkF m 44 (LS_I (6 : Int32)) [])) _
    refine XS.iloadN X0.here hx rfl (hb hby d1_44) rfl ?_
    show Steps p.tables e below (s₁.setTop (mkF m 45 (LS_I (6 : Int32)) [(.int (6 : Int32))])) _
    refine XS.iconst X0.here hx rfl (hb hby d1_45) ?_
    show Steps p.tables e below (s₁.setTop (mkF m 46 (LS_I (6 : Int32)) [(.int (5 : Int32)), (.int (6 : Int32))])) _
    refine XS.icmpYes X0.here hx rfl (pc0 := 46) (pc' := 53) rfl (hb hby d1_46) rfl (feq (by decide : ¬ ((6 : Int32) = (5 : Int32)))).2 (by decide) (by decide) ?_
    show Steps p.tables e below (s₁.setTop (mkF m 53 (LS_I (6 : Int32)) [])) _
    refine XS.iloadN X0.here hx rfl (hb hby d1_53) rfl ?_
    show Steps p.tables e below (s₁.setTop (mkF m 54 (LS_I (6 : Int32)) [(.int (6 : Int32))])) _
    refine XS.bipush X0.here hx rfl (hb hby d1_54) ?_
    show Steps p.tables e below (s₁.setTop (mkF m 56 (LS_I (6 : Int32)) [(.int (6 : Int32)), (.int (6 : Int32))])) _
    refine XS.icmpNo X0.here hx rfl (hb hby d1_56) rfl (teq (by decide : (6 : Int32) = (6 : Int32))).2 ?_
    exact k
  obtain ⟨T1, X1, e1, st1⟩ := getS2 X0 hx hZ hown (host := "") (Or.inl (hw _ (List.mem_of_getElem? (i := 38) rfl))) Via.refl e0 S0 (g := (mkF m 59 (LS_I (6 : Int32)) [])) rfl (hb hby d1_59)
  refine own_go (B := T1.setTop (mkF m 62 (LS_I (6 : Int32)) [(.ref w0)])) (fun t k => st1 _ k) ?_
  obtain ⟨fs, hr, hrun, hended, hW, hsame⟩ := X1.leave (v := some (.ref w0)) (fun h => by rw [Bd.returns] at h; cases h)
  refine ⟨_, _, ?_, hrun, hended, _, _, rfl, ?_, ⟨_, rfl⟩, hW, hsame.mono (by decide) (by decide)⟩
  · show Steps p.tables e below (T1.setTop (mkF m 62 (LS_I (6 : Int32)) [(.ref w0)])) _
    exact retOut X1 hx Bd.returns rfl (Or.inr (Or.inr (Or.inr (Or.inr ⟨rfl, rfl, rfl⟩)))) (hb hby d1_62) hr
  · show Q1_6 Z w0 h0 n0 _ T1.heap _
    rw [e1]
    exact ⟨rfl, N0, rfl⟩
theorem ef_1_7 (m : MethodId)  : entryFrame m #[(.int (7 : Int32))] 1 = mkF m 0 #[.val (.int (7 : Int32))] [] := by first | (simp [entryFrame, mkF, argsToLocals, Value.category]; done) | rfl
theorem d1_63 : decode method_3_code 63 = .ok (.iload_n 0, 1) := by decide +kernel
theorem d1_64 : decode method_3_code 64 = .ok (.bipush 7, 2) := by decide +kernel
theorem d1_66 : decode method_3_code 66 = .ok (.if_icmp .ne 7, 3) := by decide +kernel
theorem d1_69 : decode method_3_code 69 = .ok (.getstatic 42, 3) := by decide +kernel
theorem d1_72 : decode method_3_code 72 = .ok (.areturn, 1) := by decide +kernel
def Q1_7 (Z : State) (w0 : Addr) (h0 : Heap) (n0 : Nat) (v : Option Value) (h : Heap) (L : List Loc) : Prop := v = some (.ref w0) ∧ Fr n0 L ∧ h = h0
set_option maxRecDepth 65536 in
set_option maxHeartbeats 40000000 in
theorem rm1_7 (l : Launch) (Z : State) (a0 : Array Value) (hw : ∀ d ∈ tables_1, d.before a0 Z = true) (ws : List Jvm.Cond) (w0 : Addr) (h0 : Heap) (n0 : Nat) (Z0 : n0 ≤ h0.size) (S0 : Sta Z h0 "com/example/murray_hill/murrayhill/store/RunStatus" "CANCELED" "Lcom/example/murray_hill/murrayhill/store/RunStatus;" (.ref w0)) :
    MetFree l (⟨"com/example/murray_hill/murrayhill/store/RunStatusIsFinalPinLaw", "pick", "(I)Lcom/example/murray_hill/murrayhill/store/RunStatus;"⟩ : MethodName) (head1 (Jvm.Cond.code (⟨"com/example/murray_hill/murrayhill/store/RunStatusIsFinalPinLaw", "pick", "(I)Lcom/example/murray_hill/murrayhill/store/RunStatus;"⟩ : MethodName) method_3_code 1 (some (.object "com/example/murray_hill/murrayhill/store/RunStatus")) :: ws) ({ frames := 0, cells := 0, slots := 0, locals := 0 } : Room)) (fun a U => a = #[(.int (7 : Int32))] ∧ Z.Warmed39 U.vm ∧ U.heap = h0) (fun _ _ _ _ _ => True) (fun _ U o U' => ∃ v L, o = .returned v ∧ Q1_7 Z w0 h0 n0 v U'.heap L ∧ FrameEnd U o U' L ({ frames := 0, cells := 0, slots := 0, locals := 0 } : Room).cells ({ frames := 0, cells := 0, slots := 0, locals := 0 } : Room).slots) := by
  refine MetFree.of_bodySF (plainFor_of_name pn_1) hisR ?_
  intro p e s m args below meth c s₁ Bd hml0 hP hK
  obtain ⟨rfl, hZ, hh⟩ := hP
  have hx := Bd.exec
  have hby := Bd.bytes
  have hml : c.maxLocals = 1 := hml0
  have hown : s.vm.findClass "com/example/murray_hill/murrayhill/store/RunStatusIsFinalPinLaw" = some m.cls := findClass_of_methodNamed Bd.named
  have hnm := (name_of_methodNamed Bd.named Bd.method).1
  have X0 : Stand p l e ({ frames := 0, cells := 0, slots := 0, locals := 0 } : Room) s m #[(.int (7 : Int32))] below meth c s₁ [] 0 0 := Stand.of_body Bd
  have e0 : s₁.heap = h0 := by rw [← hh, Bd.state]; rfl
  have N0 := Fr.nil n0
  refine own_go (B := s₁.setTop (mkF m 0 (LS_I (7 : Int32)) [])) (fun t k => castTop (ef_1_7 m ) k) ?_
  refine own_go (B := s₁.setTop (mkF m 69 (LS_I (7 : Int32)) [])) (fun t k => ?_) ?_
  · show Steps p.tables e below (s₁.setTop (mkF m 0 (LS_I (7 : Int32)) [])) _
    refine XS.iloadN X0.here hx rfl (hb hby d1_0) rfl ?_
    show Steps p.tables e below (s₁.setTop (mkF m 1 (LS_I (7 : Int32)) [(.int (7 : Int32))])) _
    refine XS.ifYes X0.here hx rfl (pc0 := 1) (pc' := 8) rfl (hb hby d1_1) rfl ((if0 _ _).trans (feq (by decide : ¬ ((7 : Int32) = (0 : Int32)))).2) (by decide) (by decide) ?_
    show Steps p.tables e below (s₁.setTop (mkF m 8 (LS_I (7 : Int32)) [])) _
    refine XS.iloadN X0.here hx rfl (hb hby d1_8) rfl ?_
    show Steps p.tables e below (s₁.setTop (mkF m 9 (LS_I (7 : Int32)) [(.int (7 : Int32))])) _
    refine XS.iconst X0.here hx rfl (hb hby d1_9) ?_
    show Steps p.tables e below (s₁.setTop (mkF m 10 (LS_I (7 : Int32)) [(.int (1 : Int32)), (.int (7 : Int32))])) _
    refine XS.icmpYes X0.here hx rfl (pc0 := 10) (pc' := 17) rfl (hb hby d1_10) rfl (feq (by decide : ¬ ((7 : Int32) = (1 : Int32)))).2 (by decide) (by decide) ?_
    show Steps p.tables e below (s₁.setTop (mkF m 17 (LS_I (7 : Int32)) [])) _
    refine XS.iloadN X0.here hx rfl (hb hby d1_17) rfl ?_
    show Steps p.tables e below (s₁.setTop (mkF m 18 (LS_I (7 : Int32)) [(.int (7 : Int32))])) _
    refine XS.iconst X0.here hx rfl (hb hby d1_18) ?_
    show Steps p.tables e below (s₁.setTop (mkF m 19 (LS_I (7 : Int32)) [(.int (2 : Int32)), (.int (7 : Int32))])) _
    refine XS.icmpYes X0.here hx rfl (pc0 := 19) (pc' := 26) rfl (hb hby d1_19) rfl (feq (by decide : ¬ ((7 : Int32) = (2 : Int32)))).2 (by decide) (by decide) ?_
    show Steps p.tables e below (s₁.setTop (mkF m 26 (LS_I (7 : Int32)) [])) _
    refine XS.iloadN X0.here hx rfl (hb hby d1_26) rfl ?_
    show Steps p.tables e below (s₁.setTop (mkF m 27 (LS_I (7 : Int32)) [(.int (7 : Int32))])) _
    refine XS.iconst X0.here hx rfl (hb hby d1_27) ?_
    show Steps p.tables e below (s₁.setTop (mkF m 28 (LS_I (7 : Int32)) [(.int (3 : Int32)), (.int (7 : Int32))])) _
    refine XS.icmpYes X0.here hx rfl (pc0 := 28) (pc' := 35) rfl (hb hby d1_28) rfl (feq (by decide : ¬ ((7 : Int32) = (3 : Int32)))).2 (by decide) (by decide) ?_
    show Steps p.tables e below (s₁.setTop (mkF m 35 (LS_I (7 : Int32)) [])) _
    refine XS.iloadN X0.here hx rfl (hb hby d1_35) rfl ?_
    show Steps p.tables e below (s₁.setTop (mkF m 36 (LS_I (7 : Int32)) [(.int (7 : Int32))])) _
    refine XS.iconst X0.here hx rfl (hb hby d1_36) ?_
    show Steps p.tables e below (s₁.setTop (mkF m 37 (LS_I (7 : Int32)) [(.int (4 : Int32)), (.int (7 : Int32))])) _
    refine XS.icmpYes X0.here hx rfl (pc0 := 37) (pc' := 44) rfl (hb hby d1_37) rfl (feq (by decide : ¬ ((7 : Int32) = (4 : Int32)))).2 (by decide) (by decide) ?_
    show Steps p.tables e below (s₁.setTop (mkF m 44 (LS_I (7 : Int32)) [])) _
    refine XS.iloadN X0.here hx rfl (hb hby d1_44) rfl ?_
    show Steps p.tables e below (s₁.setTop (mkF m 45 (LS_I (7 : Int32)) [(.int (7 : Int32))])) _
    refine XS.iconst X0.here hx rfl (hb hby d1_45) ?_
    show Steps p.tables e below (s₁.setTop (mkF m 46 (LS_I (7 : Int32)) [(.int (5 : Int32)), (.int (7 : Int32))])) _
    refine XS.icmpYes X0.here hx rfl (pc0 := 46) (pc' := 53) rfl (hb hby d1_46) rfl (feq (by decide : ¬ ((7 : Int32) = (5 : Int32)))).2 (by decide) (by decide) ?_
    show Steps p.tables e below (s₁.setTop (mkF m 53 (LS_I (7 : Int32)) [])) _
    refine XS.iloadN X0.here hx rfl (hb hby d1_53) rfl ?_
    show Steps p.tables e below (s₁.setTop (mkF m 54 (LS_I (7 : Int32)) [(.int (7 : Int32))])) _
    refine XS.bipush X0.here hx rfl (hb hby d1_54) ?_
    show Steps p.tables e below (s₁.setTop (mkF m 56 (LS_I (7 : Int32)) [(.int (6 : Int32)), (.int (7 : Int32))])) _
    refine XS.icmpYes X0.here hx rfl (pc0 := 56) (pc' := 63) rfl (hb hby d1_56) rfl (feq (by decide : ¬ ((7 : Int32) = (6 : Int32)))).2 (by decide) (by decide) ?_
    show Steps p.tables e below (s₁.setTop (mkF m 63 (LS_I (7 : Int32)) [])) _
    refine XS.iloadN X0.here hx rfl (hb hby d1_63) rfl ?_
    show Steps p.tables e below (s₁.setTop (mkF m 64 (LS_I (7 : Int32)) [(.int (7 : Int32))])) _
    refine XS.bipush X0.here hx rfl (hb hby d1_64) ?_
    show Steps p.tables e below (s₁.setTop (mkF m 66 (LS_I (7 : Int32)) [(.int (7 : Int32)), (.int (7 : Int32))])) _
    refine XS.icmpNo X0.here hx rfl (hb hby d1_66) rfl (teq (by decide : (7 : Int32) = (7 : Int32))).2 ?_
    exact k
  obtain ⟨T1, X1, e1, st1⟩ := getS2 X0 hx hZ hown (host := "") (Or.inl (hw _ (List.mem_of_getElem? (i := 28) rfl))) Via.refl e0 S0 (g := (mkF m 69 (LS_I (7 : Int32)) [])) rfl (hb hby d1_69)
  refine own_go (B := T1.setTop (mkF m 72 (LS_I (7 : Int32)) [(.ref w0)])) (fun t k => st1 _ k) ?_
  obtain ⟨fs, hr, hrun, hended, hW, hsame⟩ := X1.leave (v := some (.ref w0)) (fun h => by rw [Bd.returns] at h; cases h)
  refine ⟨_, _, ?_, hrun, hended, _, _, rfl, ?_, ⟨_, rfl⟩, hW, hsame.mono (by decide) (by decide)⟩
  · show Steps p.tables e below (T1.setTop (mkF m 72 (LS_I (7 : Int32)) [(.ref w0)])) _
    exact retOut X1 hx Bd.returns rfl (Or.inr (Or.inr (Or.inr (Or.inr ⟨rfl, rfl, rfl⟩)))) (hb hby d1_72) hr
  · show Q1_7 Z w0 h0 n0 _ T1.heap _
    rw [e1]
    exact ⟨rfl, N0, rfl⟩
theorem ef_1_8 (m : MethodId)  : entryFrame m #[(.int (8 : Int32))] 1 = mkF m 0 #[.val (.int (8 : Int32))] [] := by first | (simp [entryFrame, mkF, argsToLocals, Value.category]; done) | rfl
theorem d1_73 : decode method_3_code 73 = .ok (.iload_n 0, 1) := by decide +kernel
theorem d1_74 : decode method_3_code 74 = .ok (.bipush 8, 2) := by decide +kernel
theorem d1_76 : decode method_3_code 76 = .ok (.if_icmp .ne 7, 3) := by decide +kernel
theorem d1_79 : decode method_3_code 79 = .ok (.getstatic 45, 3) := by decide +kernel
theorem d1_82 : decode method_3_code 82 = .ok (.areturn, 1) := by decide +kernel
def Q1_8 (Z : State) (w0 : Addr) (h0 : Heap) (n0 : Nat) (v : Option Value) (h : Heap) (L : List Loc) : Prop := v = some (.ref w0) ∧ Fr n0 L ∧ h = h0
set_option maxRecDepth 65536 in
set_option maxHeartbeats 40000000 in
theorem rm1_8 (l : Launch) (Z : State) (a0 : Array Value) (hw : ∀ d ∈ tables_1, d.before a0 Z = true) (ws : List Jvm.Cond) (w0 : Addr) (h0 : Heap) (n0 : Nat) (Z0 : n0 ≤ h0.size) (S0 : Sta Z h0 "com/example/murray_hill/murrayhill/store/RunStatus" "INTERRUPTED" "Lcom/example/murray_hill/murrayhill/store/RunStatus;" (.ref w0)) :
    MetFree l (⟨"com/example/murray_hill/murrayhill/store/RunStatusIsFinalPinLaw", "pick", "(I)Lcom/example/murray_hill/murrayhill/store/RunStatus;"⟩ : MethodName) (head1 (Jvm.Cond.code (⟨"com/example/murray_hill/murrayhill/store/RunStatusIsFinalPinLaw", "pick", "(I)Lcom/example/murray_hill/murrayhill/store/RunStatus;"⟩ : MethodName) method_3_code 1 (some (.object "com/example/murray_hill/murrayhill/store/RunStatus")) :: ws) ({ frames := 0, cells := 0, slots := 0, locals := 0 } : Room)) (fun a U => a = #[(.int (8 : Int32))] ∧ Z.Warmed39 U.vm ∧ U.heap = h0) (fun _ _ _ _ _ => True) (fun _ U o U' => ∃ v L, o = .returned v ∧ Q1_8 Z w0 h0 n0 v U'.heap L ∧ FrameEnd U o U' L ({ frames := 0, cells := 0, slots := 0, locals := 0 } : Room).cells ({ frames := 0, cells := 0, slots := 0, locals := 0 } : Room).slots) := by
  refine MetFree.of_bodySF (plainFor_of_name pn_1) hisR ?_
  intro p e s m args below meth c s₁ Bd hml0 hP hK
  obtain ⟨rfl, hZ, hh⟩ := hP
  have hx := Bd.exec
  have hby := Bd.bytes
  have hml : c.maxLocals = 1 := hml0
  have hown : s.vm.findClass "com/example/murray_hill/murrayhill/store/RunStatusIsFinalPinLaw" = some m.cls := findClass_of_methodNamed Bd.named
  have hnm := (name_of_methodNamed Bd.named Bd.method).1
  have X0 : Stand p l e ({ frames := 0, cells := 0, slots := 0, locals := 0 } : Room) s m #[(.int (8 : Int32))] below meth c s₁ [] 0 0 := Stand.of_body Bd
  have e0 : s₁.heap = h0 := by rw [← hh, Bd.state]; rfl
  have N0 := Fr.nil n0
  refine own_go (B := s₁.setTop (mkF m 0 (LS_I (8 : Int32)) [])) (fun t k => castTop (ef_1_8 m ) k) ?_
  refine own_go (B := s₁.setTop (mkF m 79 (LS_I (8 : Int32)) [])) (fun t k => ?_) ?_
  · show Steps p.tables e below (s₁.setTop (mkF m 0 (LS_I (8 : Int32)) [])) _
    refine XS.iloadN X0.here hx rfl (hb hby d1_0) rfl ?_
    show Steps p.tables e below (s₁.setTop (mkF m 1 (LS_I (8 : Int32)) [(.int (8 : Int32))])) _
    refine XS.ifYes X0.here hx rfl (pc0 := 1) (pc' := 8) rfl (hb hby d1_1) rfl ((if0 _ _).trans (feq (by decide : ¬ ((8 : Int32) = (0 : Int32)))).2) (by decide) (by decide) ?_
    show Steps p.tables e below (s₁.setTop (mkF m 8 (LS_I (8 : Int32)) [])) _
    refine XS.iloadN X0.here hx rfl (hb hby d1_8) rfl ?_
    show Steps p.tables e below (s₁.setTop (mkF m 9 (LS_I (8 : Int32)) [(.int (8 : Int32))])) _
    refine XS.iconst X0.here hx rfl (hb hby d1_9) ?_
    show Steps p.tables e below (s₁.setTop (mkF m 10 (LS_I (8 : Int32)) [(.int (1 : Int32)), (.int (8 : Int32))])) _
    refine XS.icmpYes X0.here hx rfl (pc0 := 10) (pc' := 17) rfl (hb hby d1_10) rfl (feq (by decide : ¬ ((8 : Int32) = (1 : Int32)))).2 (by decide) (by decide) ?_
    show Steps p.tables e below (s₁.setTop (mkF m 17 (LS_I (8 : Int32)) [])) _
    refine XS.iloadN X0.here hx rfl (hb hby d1_17) rfl ?_
    show Steps p.tables e below (s₁.setTop (mkF m 18 (LS_I (8 : Int32)) [(.int (8 : Int32))])) _
    refine XS.iconst X0.here hx rfl (hb hby d1_18) ?_
    show Steps p.tables e below (s₁.setTop (mkF m 19 (LS_I (8 : Int32)) [(.int (2 : Int32)), (.int (8 : Int32))])) _
    refine XS.icmpYes X0.here hx rfl (pc0 := 19) (pc' := 26) rfl (hb hby d1_19) rfl (feq (by decide : ¬ ((8 : Int32) = (2 : Int32)))).2 (by decide) (by decide) ?_
    show Steps p.tables e below (s₁.setTop (mkF m 26 (LS_I (8 : Int32)) [])) _
    refine XS.iloadN X0.here hx rfl (hb hby d1_26) rfl ?_
    show Steps p.tables e below (s₁.setTop (mkF m 27 (LS_I (8 : Int32)) [(.int (8 : Int32))])) _
    refine XS.iconst X0.here hx rfl (hb hby d1_27) ?_
    show Steps p.tables e below (s₁.setTop (mkF m 28 (LS_I (8 : Int32)) [(.int (3 : Int32)), (.int (8 : Int32))])) _
    refine XS.icmpYes X0.here hx rfl (pc0 := 28) (pc' := 35) rfl (hb hby d1_28) rfl (feq (by decide : ¬ ((8 : Int32) = (3 : Int32)))).2 (by decide) (by decide) ?_
    show Steps p.tables e below (s₁.setTop (mkF m 35 (LS_I (8 : Int32)) [])) _
    refine XS.iloadN X0.here hx rfl (hb hby d1_35) rfl ?_
    show Steps p.tables e below (s₁.setTop (mkF m 36 (LS_I (8 : Int32)) [(.int (8 : Int32))])) _
    refine XS.iconst X0.here hx rfl (hb hby d1_36) ?_
    show Steps p.tables e below (s₁.setTop (mkF m 37 (LS_I (8 : Int32)) [(.int (4 : Int32)), (.int (8 : Int32))])) _
    refine XS.icmpYes X0.here hx rfl (pc0 := 37) (pc' := 44) rfl (hb hby d1_37) rfl (feq (by decide : ¬ ((8 : Int32) = (4 : Int32)))).2 (by decide) (by decide) ?_
    show Steps p.tables e below (s₁.setTop (mkF m 44 (LS_I (8 : Int32)) [])) _
    refine XS.iloadN X0.here hx rfl (hb hby d1_44) rfl ?_
    show Steps p.tables e below (s₁.setTop (mkF m 45 (LS_I (8 : Int32)) [(.int (8 : Int32))])) _
    refine XS.iconst X0.here hx rfl (hb hby d1_45) ?_
    show Steps p.tables e below (s₁.setTop (mkF m 46 (LS_I (8 : Int32)) [(.int (5 : Int32)), (.int (8 : Int32))])) _
    refine XS.icmpYes X0.here hx rfl (pc0 := 46) (pc' := 53) rfl (hb hby d1_46) rfl (feq (by decide : ¬ ((8 : Int32) = (5 : Int32)))).2 (by decide) (by decide) ?_
    show Steps p.tables e below (s₁.setTop (mkF m 53 (LS_I (8 : Int32)) [])) _
    refine XS.iloadN X0.here hx rfl (hb hby d1_53) rfl ?_
    show Steps p.tables e below (s₁.setTop (mkF m 54 (LS_I (8 : Int32)) [(.int (8 : Int32))])) _
    refine XS.bipush X0.here hx rfl (hb hby d1_54) ?_
    show Steps p.tables e below (s₁.setTop (mkF m 56 (LS_I (8 : Int32)) [(.int (6 : Int32)), (.int (8 : Int32))])) _
    refine XS.icmpYes X0.here hx rfl (pc0 := 56) (pc' := 63) rfl (hb hby d1_56) rfl (feq (by decide : ¬ ((8 : Int32) = (6 : Int32)))).2 (by decide) (by decide) ?_
    show Steps p.tables e below (s₁.setTop (mkF m 63 (LS_I (8 : Int32)) [])) _
    refine XS.iloadN X0.here hx rfl (hb hby d1_63) rfl ?_
    show Steps p.tables e below (s₁.setTop (mkF m 64 (LS_I (8 : Int32)) [(.int (8 : Int32))])) _
    refine XS.bipush X0.here hx rfl (hb hby d1_64) ?_
    show Steps p.tables e below (s₁.setTop (mkF m 66 (LS_I (8 : Int32)) [(.int (7 : Int32)), (.int (8 : Int32))])) _
    refine XS.icmpYes X0.here hx rfl (pc0 := 66) (pc' := 73) rfl (hb hby d1_66) rfl (feq (by decide : ¬ ((8 : Int32) = (7 : Int32)))).2 (by decide) (by decide) ?_
    show Steps p.tables e below (s₁.setTop (mkF m 73 (LS_I (8 : Int32)) [])) _
    refine XS.iloadN X0.here hx rfl (hb hby d1_73) rfl ?_
    show Steps p.tables e below (s₁.setTop (mkF m 74 (LS_I (8 : Int32)) [(.int (8 : Int32))])) _
    refine XS.bipush X0.here hx rfl (hb hby d1_74) ?_
    show Steps p.tables e below (s₁.setTop (mkF m 76 (LS_I (8 : Int32)) [(.int (8 : Int32)), (.int (8 : Int32))])) _
    refine XS.icmpNo X0.here hx rfl (hb hby d1_76) rfl (teq (by decide : (8 : Int32) = (8 : Int32))).2 ?_
    exact k
  obtain ⟨T1, X1, e1, st1⟩ := getS2 X0 hx hZ hown (host := "") (Or.inl (hw _ (List.mem_of_getElem? (i := 32) rfl))) Via.refl e0 S0 (g := (mkF m 79 (LS_I (8 : Int32)) [])) rfl (hb hby d1_79)
  refine own_go (B := T1.setTop (mkF m 82 (LS_I (8 : Int32)) [(.ref w0)])) (fun t k => st1 _ k) ?_
  obtain ⟨fs, hr, hrun, hended, hW, hsame⟩ := X1.leave (v := some (.ref w0)) (fun h => by rw [Bd.returns] at h; cases h)
  refine ⟨_, _, ?_, hrun, hended, _, _, rfl, ?_, ⟨_, rfl⟩, hW, hsame.mono (by decide) (by decide)⟩
  · show Steps p.tables e below (T1.setTop (mkF m 82 (LS_I (8 : Int32)) [(.ref w0)])) _
    exact retOut X1 hx Bd.returns rfl (Or.inr (Or.inr (Or.inr (Or.inr ⟨rfl, rfl, rfl⟩)))) (hb hby d1_82) hr
  · show Q1_8 Z w0 h0 n0 _ T1.heap _
    rw [e1]
    exact ⟨rfl, N0, rfl⟩
theorem ef_1_9 (m : MethodId)  : entryFrame m #[(.int (9 : Int32))] 1 = mkF m 0 #[.val (.int (9 : Int32))] [] := by first | (simp [entryFrame, mkF, argsToLocals, Value.category]; done) | rfl
theorem d1_83 : decode method_3_code 83 = .ok (.getstatic 48, 3) := by decide +kernel
theorem d1_86 : decode method_3_code 86 = .ok (.areturn, 1) := by decide +kernel
def Q1_9 (Z : State) (w0 : Addr) (h0 : Heap) (n0 : Nat) (v : Option Value) (h : Heap) (L : List Loc) : Prop := v = some (.ref w0) ∧ Fr n0 L ∧ h = h0
set_option maxRecDepth 65536 in
set_option maxHeartbeats 40000000 in
theorem rm1_9 (l : Launch) (Z : State) (a0 : Array Value) (hw : ∀ d ∈ tables_1, d.before a0 Z = true) (ws : List Jvm.Cond) (w0 : Addr) (h0 : Heap) (n0 : Nat) (Z0 : n0 ≤ h0.size) (S0 : Sta Z h0 "com/example/murray_hill/murrayhill/store/RunStatus" "SKIPPED" "Lcom/example/murray_hill/murrayhill/store/RunStatus;" (.ref w0)) :
    MetFree l (⟨"com/example/murray_hill/murrayhill/store/RunStatusIsFinalPinLaw", "pick", "(I)Lcom/example/murray_hill/murrayhill/store/RunStatus;"⟩ : MethodName) (head1 (Jvm.Cond.code (⟨"com/example/murray_hill/murrayhill/store/RunStatusIsFinalPinLaw", "pick", "(I)Lcom/example/murray_hill/murrayhill/store/RunStatus;"⟩ : MethodName) method_3_code 1 (some (.object "com/example/murray_hill/murrayhill/store/RunStatus")) :: ws) ({ frames := 0, cells := 0, slots := 0, locals := 0 } : Room)) (fun a U => a = #[(.int (9 : Int32))] ∧ Z.Warmed39 U.vm ∧ U.heap = h0) (fun _ _ _ _ _ => True) (fun _ U o U' => ∃ v L, o = .returned v ∧ Q1_9 Z w0 h0 n0 v U'.heap L ∧ FrameEnd U o U' L ({ frames := 0, cells := 0, slots := 0, locals := 0 } : Room).cells ({ frames := 0, cells := 0, slots := 0, locals := 0 } : Room).slots) := by
  refine MetFree.of_bodySF (plainFor_of_name pn_1) hisR ?_
  intro p e s m args below meth c s₁ Bd hml0 hP hK
  obtain ⟨rfl, hZ, hh⟩ := hP
  have hx := Bd.exec
  have hby := Bd.bytes
  have hml : c.maxLocals = 1 := hml0
  have hown : s.vm.findClass "com/example/murray_hill/murrayhill/store/RunStatusIsFinalPinLaw" = some m.cls := findClass_of_methodNamed Bd.named
  have hnm := (name_of_methodNamed Bd.named Bd.method).1
  have X0 : Stand p l e ({ frames := 0, cells := 0, slots := 0, locals := 0 } : Room) s m #[(.int (9 : Int32))] below meth c s₁ [] 0 0 := Stand.of_body Bd
  have e0 : s₁.heap = h0 := by rw [← hh, Bd.state]; rfl
  have N0 := Fr.nil n0
  refine own_go (B := s₁.setTop (mkF m 0 (LS_I (9 : Int32)) [])) (fun t k => castTop (ef_1_9 m ) k) ?_
  refine own_go (B := s₁.setTop (mkF m 83 (LS_I (9 : Int32)) [])) (fun t k => ?_) ?_
  · show Steps p.tables e below (s₁.setTop (mkF m 0 (LS_I (9 : Int32)) [])) _
    refine XS.iloadN X0.here hx rfl (hb hby d1_0) rfl ?_
    show Steps p.tables e below (s₁.setTop (mkF m 1 (LS_I (9 : Int32)) [(.int (9 : Int32))])) _
    refine XS.ifYes X0.here hx rfl (pc0 := 1) (pc' := 8) rfl (hb hby d1_1) rfl ((if0 _ _).trans (feq (by decide : ¬ ((9 : Int32) = (0 : Int32)))).2) (by decide) (by decide) ?_
    show Steps p.tables e below (s₁.setTop (mkF m 8 (LS_I (9 : Int32)) [])) _
    refine XS.iloadN X0.here hx rfl (hb hby d1_8) rfl ?_
    show Steps p.tables e below (s₁.setTop (mkF m 9 (LS_I (9 : Int32)) [(.int (9 : Int32))])) _
    refine XS.iconst X0.here hx rfl (hb hby d1_9) ?_
    show Steps p.tables e below (s₁.setTop (mkF m 10 (LS_I (9 : Int32)) [(.int (1 : Int32)), (.int (9 : Int32))])) _
    refine XS.icmpYes X0.here hx rfl (pc0 := 10) (pc' := 17) rfl (hb hby d1_10) rfl (feq (by decide : ¬ ((9 : Int32) = (1 : Int32)))).2 (by decide) (by decide) ?_
    show Steps p.tables e below (s₁.setTop (mkF m 17 (LS_I (9 : Int32)) [])) _
    refine XS.iloadN X0.here hx rfl (hb hby d1_17) rfl ?_
    show Steps p.tables e below (s₁.setTop (mkF m 18 (LS_I (9 : Int32)) [(.int (9 : Int32))])) _
    refine XS.iconst X0.here hx rfl (hb hby d1_18) ?_
    show Steps p.tables e below (s₁.setTop (mkF m 19 (LS_I (9 : Int32)) [(.int (2 : Int32)), (.int (9 : Int32))])) _
    refine XS.icmpYes X0.here hx rfl (pc0 := 19) (pc' := 26) rfl (hb hby d1_19) rfl (feq (by decide : ¬ ((9 : Int32) = (2 : Int32)))).2 (by decide) (by decide) ?_
    show Steps p.tables e below (s₁.setTop (mkF m 26 (LS_I (9 : Int32)) [])) _
    refine XS.iloadN X0.here hx rfl (hb hby d1_26) rfl ?_
    show Steps p.tables e below (s₁.setTop (mkF m 27 (LS_I (9 : Int32)) [(.int (9 : Int32))])) _
    refine XS.iconst X0.here hx rfl (hb hby d1_27) ?_
    show Steps p.tables e below (s₁.setTop (mkF m 28 (LS_I (9 : Int32)) [(.int (3 : Int32)), (.int (9 : Int32))])) _
    refine XS.icmpYes X0.here hx rfl (pc0 := 28) (pc' := 35) rfl (hb hby d1_28) rfl (feq (by decide : ¬ ((9 : Int32) = (3 : Int32)))).2 (by decide) (by decide) ?_
    show Steps p.tables e below (s₁.setTop (mkF m 35 (LS_I (9 : Int32)) [])) _
    refine XS.iloadN X0.here hx rfl (hb hby d1_35) rfl ?_
    show Steps p.tables e below (s₁.setTop (mkF m 36 (LS_I (9 : Int32)) [(.int (9 : Int32))])) _
    refine XS.iconst X0.here hx rfl (hb hby d1_36) ?_
    show Steps p.tables e below (s₁.setTop (mkF m 37 (LS_I (9 : Int32)) [(.int (4 : Int32)), (.int (9 : Int32))])) _
    refine XS.icmpYes X0.here hx rfl (pc0 := 37) (pc' := 44) rfl (hb hby d1_37) rfl (feq (by decide : ¬ ((9 : Int32) = (4 : Int32)))).2 (by decide) (by decide) ?_
    show Steps p.tables e below (s₁.setTop (mkF m 44 (LS_I (9 : Int32)) [])) _
    refine XS.iloadN X0.here hx rfl (hb hby d1_44) rfl ?_
    show Steps p.tables e below (s₁.setTop (mkF m 45 (LS_I (9 : Int32)) [(.int (9 : Int32))])) _
    refine XS.iconst X0.here hx rfl (hb hby d1_45) ?_
    show Steps p.tables e below (s₁.setTop (mkF m 46 (LS_I (9 : Int32)) [(.int (5 : Int32)), (.int (9 : Int32))])) _
    refine XS.icmpYes X0.here hx rfl (pc0 := 46) (pc' := 53) rfl (hb hby d1_46) rfl (feq (by decide : ¬ ((9 : Int32) = (5 : Int32)))).2 (by decide) (by decide) ?_
    show Steps p.tables e below (s₁.setTop (mkF m 53 (LS_I (9 : Int32)) [])) _
    refine XS.iloadN X0.here hx rfl (hb hby d1_53) rfl ?_
    show Steps p.tables e below (s₁.setTop (mkF m 54 (LS_I (9 : Int32)) [(.int (9 : Int32))])) _
    refine XS.bipush X0.here hx rfl (hb hby d1_54) ?_
    show Steps p.tables e below (s₁.setTop (mkF m 56 (LS_I (9 : Int32)) [(.int (6 : Int32)), (.int (9 : Int32))])) _
    refine XS.icmpYes X0.here hx rfl (pc0 := 56) (pc' := 63) rfl (hb hby d1_56) rfl (feq (by decide : ¬ ((9 : Int32) = (6 : Int32)))).2 (by decide) (by decide) ?_
    show Steps p.tables e below (s₁.setTop (mkF m 63 (LS_I (9 : Int32)) [])) _
    refine XS.iloadN X0.here hx rfl (hb hby d1_63) rfl ?_
    show Steps p.tables e below (s₁.setTop (mkF m 64 (LS_I (9 : Int32)) [(.int (9 : Int32))])) _
    refine XS.bipush X0.here hx rfl (hb hby d1_64) ?_
    show Steps p.tables e below (s₁.setTop (mkF m 66 (LS_I (9 : Int32)) [(.int (7 : Int32)), (.int (9 : Int32))])) _
    refine XS.icmpYes X0.here hx rfl (pc0 := 66) (pc' := 73) rfl (hb hby d1_66) rfl (feq (by decide : ¬ ((9 : Int32) = (7 : Int32)))).2 (by decide) (by decide) ?_
    show Steps p.tables e below (s₁.setTop (mkF m 73 (LS_I (9 : Int32)) [])) _
    refine XS.iloadN X0.here hx rfl (hb hby d1_73) rfl ?_
    show Steps p.tables e below (s₁.setTop (mkF m 74 (LS_I (9 : Int32)) [(.int (9 : Int32))])) _
    refine XS.bipush X0.here hx rfl (hb hby d1_74) ?_
    show Steps p.tables e below (s₁.setTop (mkF m 76 (LS_I (9 : Int32)) [(.int (8 : Int32)), (.int (9 : Int32))])) _
    refine XS.icmpYes X0.here hx rfl (pc0 := 76) (pc' := 83) rfl (hb hby d1_76) rfl (feq (by decide : ¬ ((9 : Int32) = (8 : Int32)))).2 (by decide) (by decide) ?_
    exact k
  obtain ⟨T1, X1, e1, st1⟩ := getS2 X0 hx hZ hown (host := "") (Or.inl (hw _ (List.mem_of_getElem? (i := 34) rfl))) Via.refl e0 S0 (g := (mkF m 83 (LS_I (9 : Int32)) [])) rfl (hb hby d1_83)
  refine own_go (B := T1.setTop (mkF m 86 (LS_I (9 : Int32)) [(.ref w0)])) (fun t k => st1 _ k) ?_
  obtain ⟨fs, hr, hrun, hended, hW, hsame⟩ := X1.leave (v := some (.ref w0)) (fun h => by rw [Bd.returns] at h; cases h)
  refine ⟨_, _, ?_, hrun, hended, _, _, rfl, ?_, ⟨_, rfl⟩, hW, hsame.mono (by decide) (by decide)⟩
  · show Steps p.tables e below (T1.setTop (mkF m 86 (LS_I (9 : Int32)) [(.ref w0)])) _
    exact retOut X1 hx Bd.returns rfl (Or.inr (Or.inr (Or.inr (Or.inr ⟨rfl, rfl, rfl⟩)))) (hb hby d1_86) hr
  · show Q1_9 Z w0 h0 n0 _ T1.heap _
    rw [e1]
    exact ⟨rfl, N0, rfl⟩
theorem ef_3 (m : MethodId) (r0 : Addr) : entryFrame m #[(.ref r0)] 1 = mkF m 0 #[.val (.ref r0)] [] := by first | (simp [entryFrame, mkF, argsToLocals, Value.category]; done) | rfl
theorem pn_3 : plainName "java/lang/Enum" = true := by first | (simp [plainName, overriddenIn]; done) | decide +kernel
abbrev LS_R (a0 : Addr) : Array Slot := #[.val (.ref a0)]
theorem d3_0 : decode jdk_37_method_2_code 0 = .ok (.aload_n 0, 1) := by decide +kernel
theorem d3_1 : decode jdk_37_method_2_code 1 = .ok (.getfield 7, 3) := by decide +kernel
theorem d3_4 : decode jdk_37_method_2_code 4 = .ok (.ireturn, 1) := by decide +kernel
def Q3 (Z : State) (r0 : Addr) (p1 : Int32) (h0 : Heap) (n0 : Nat) (v : Option Value) (h : Heap) (L : List Loc) : Prop := v = some (.int p1) ∧ Fr n0 L ∧ h = h0
set_option maxRecDepth 65536 in
set_option maxHeartbeats 40000000 in
theorem rm3 (l : Launch) (Z : State) (a0 : Array Value) (hw : ∀ d ∈ tables_1, d.before a0 Z = true) (ws : List Jvm.Cond) (r0 : Addr) (p1 : Int32) (h0 : Heap) (n0 : Nat) (Z0 : n0 ≤ h0.size) (F0 : Fld Z h0 r0 "java/lang/Enum" "ordinal" "I" (.int p1)) :
    MetFree l (⟨"java/lang/Enum", "ordinal", "()I"⟩ : MethodName) (head1 (Jvm.Cond.code (⟨"java/lang/Enum", "ordinal", "()I"⟩ : MethodName) jdk_37_method_2_code 1 (some .int) :: ws) ({ frames := 0, cells := 0, slots := 0, locals := 0 } : Room)) (fun a U => a = #[(.ref r0)] ∧ Z.Warmed39 U.vm ∧ U.heap = h0) (fun _ _ _ _ _ => True) (fun _ U o U' => ∃ v L, o = .returned v ∧ Q3 Z r0 p1 h0 n0 v U'.heap L ∧ FrameEnd U o U' L ({ frames := 0, cells := 0, slots := 0, locals := 0 } : Room).cells ({ frames := 0, cells := 0, slots := 0, locals := 0 } : Room).slots) := by
  refine MetFree.of_bodySF (plainFor_of_name pn_3) hisR ?_
  intro p e s m args below meth c s₁ Bd hml0 hP hK
  obtain ⟨rfl, hZ, hh⟩ := hP
  have hx := Bd.exec
  have hby := Bd.bytes
  have hml : c.maxLocals = 1 := hml0
  have hown : s.vm.findClass "java/lang/Enum" = some m.cls := findClass_of_methodNamed Bd.named
  have hnm := (name_of_methodNamed Bd.named Bd.method).1
  have X0 : Stand p l e ({ frames := 0, cells := 0, slots := 0, locals := 0 } : Room) s m #[(.ref r0)] below meth c s₁ [] 0 0 := Stand.of_body Bd
  have e0 : s₁.heap = h0 := by rw [← hh, Bd.state]; rfl
  have N0 := Fr.nil n0
  refine own_go (B := s₁.setTop (mkF m 0 (LS_R r0) [])) (fun t k => castTop (ef_3 m r0) k) ?_
  refine own_go (B := s₁.setTop (mkF m 1 (LS_R r0) [(.ref r0)])) (fun t k => ?_) ?_
  · show Steps p.tables e below (s₁.setTop (mkF m 0 (LS_R r0) [])) _
    refine XS.aloadN X0.here hx rfl (hb hby d3_0) rfl rfl ?_
    exact k
  obtain ⟨T1, X1, e1, st1⟩ := getF X0 hx hZ hown (host := "") (Or.inl (hw _ (List.mem_of_getElem? (i := 20) rfl))) Via.refl e0 F0 (g := (mkF m 1 (LS_R r0) [(.ref r0)])) rfl rfl (hb hby d3_1)
  refine own_go (B := T1.setTop (mkF m 4 (LS_R r0) [(.int p1)])) (fun t k => st1 _ k) ?_
  obtain ⟨fs, hr, hrun, hended, hW, hsame⟩ := X1.leave (v := some (.int p1)) (fun h => by rw [Bd.returns] at h; cases h)
  refine ⟨_, _, ?_, hrun, hended, _, _, rfl, ?_, ⟨_, rfl⟩, hW, hsame.mono (by decide) (by decide)⟩
  · show Steps p.tables e below (T1.setTop (mkF m 4 (LS_R r0) [(.int p1)])) _
    exact retOut X1 hx Bd.returns rfl (Or.inl ⟨rfl, Or.inl rfl, _, rfl⟩) (hb hby d3_4) hr
  · show Q3 Z r0 p1 h0 n0 _ T1.heap _
    rw [e1]
    exact ⟨rfl, N0, rfl⟩
theorem ef_2_0 (m : MethodId) (r0 : Addr) : entryFrame m #[(.ref r0)] 1 = mkF m 0 #[.val (.ref r0)] [] := by first | (simp [entryFrame, mkF, argsToLocals, Value.category]; done) | rfl
theorem pn_2 : plainName "com/example/murray_hill/murrayhill/store/RunStatus" = true := by first | (simp [plainName, overriddenIn]; done) | decide +kernel
theorem d2_0 : decode prog_56_method_5_code 0 = .ok (.aload_n 0, 1) := by decide +kernel
theorem d2_1 : decode prog_56_method_5_code 1 = .ok (.invokevirtual 65, 3) := by decide +kernel
theorem pd___I : parseMethodDescriptor "()I" = some ⟨[], some .int⟩ := by decide +kernel
theorem d2_4 : decode prog_56_method_5_code 4 = .ok (.tableswitch 56 0 9 #[66, 66, 66, 70, 70, 70, 70, 70, 70, 70], 56) := by decide +kernel
theorem d2_70 : decode prog_56_method_5_code 70 = .ok (.iconst 0, 1) := by decide +kernel
theorem d2_71 : decode prog_56_method_5_code 71 = .ok (.goto 4, 3) := by decide +kernel
theorem d2_75 : decode prog_56_method_5_code 75 = .ok (.ireturn, 1) := by decide +kernel
def Q2_0 (Z : State) (r0 : Addr) (h0 : Heap) (n0 : Nat) (v : Option Value) (h : Heap) (L : List Loc) : Prop := v = some (.int (0 : Int32)) ∧ Fr n0 L ∧ h = h0
set_option maxRecDepth 65536 in
set_option maxHeartbeats 40000000 in
theorem rm2_0 (l : Launch) (Z : State) (a0 : Array Value) (hw : ∀ d ∈ tables_1, d.before a0 Z = true) (ws : List Jvm.Cond) (r0 : Addr) (h0 : Heap) (n0 : Nat) (Z0 : n0 ≤ h0.size) (E0 : Exa Z h0 r0 "com/example/murray_hill/murrayhill/store/RunStatus") (F0 : Fld Z h0 r0 "java/lang/Enum" "ordinal" "I" (.int (0 : Int32))) :
    MetFree l (⟨"com/example/murray_hill/murrayhill/store/RunStatus", "isFinal", "()Z"⟩ : MethodName) (head1 (Jvm.Cond.code (⟨"com/example/murray_hill/murrayhill/store/RunStatus", "isFinal", "()Z"⟩ : MethodName) prog_56_method_5_code 1 (some .boolean) :: ws) ({ frames := 1, cells := 0, slots := 0, locals := 12 } : Room)) (fun a U => a = #[(.ref r0)] ∧ Z.Warmed39 U.vm ∧ U.heap = h0) (fun _ _ _ _ _ => True) (fun _ U o U' => ∃ v L, o = .returned v ∧ Q2_0 Z r0 h0 n0 v U'.heap L ∧ FrameEnd U o U' L ({ frames := 1, cells := 0, slots := 0, locals := 12 } : Room).cells ({ frames := 1, cells := 0, slots := 0, locals := 12 } : Room).slots) := by
  refine MetFree.of_bodySF (plainFor_of_name pn_2) hisR ?_
  intro p e s m args below meth c s₁ Bd hml0 hP hK
  obtain ⟨rfl, hZ, hh⟩ := hP
  have hx := Bd.exec
  have hby := Bd.bytes
  have hml : c.maxLocals = 1 := hml0
  have hown : s.vm.findClass "com/example/murray_hill/murrayhill/store/RunStatus" = some m.cls := findClass_of_methodNamed Bd.named
  have hnm := (name_of_methodNamed Bd.named Bd.method).1
  have X0 : Stand p l e ({ frames := 1, cells := 0, slots := 0, locals := 12 } : Room) s m #[(.ref r0)] below meth c s₁ [] 0 0 := Stand.of_body Bd
  have e0 : s₁.heap = h0 := by rw [← hh, Bd.state]; rfl
  have N0 := Fr.nil n0
  refine own_go (B := s₁.setTop (mkF m 0 (LS_R r0) [])) (fun t k => castTop (ef_2_0 m r0) k) ?_
  refine own_go (B := s₁.setTop (mkF m 1 (LS_R r0) [(.ref r0)])) (fun t k => ?_) ?_
  · show Steps p.tables e below (s₁.setTop (mkF m 0 (LS_R r0) [])) _
    refine XS.aloadN X0.here hx rfl (hb hby d2_0) rfl rfl ?_
    exact k
  obtain ⟨cq1, kq1, q1a, q1b, q1c⟩ := isOf hZ e0 E0
  obtain ⟨_, _, ⟨T1, L1, k1, n1⟩, -, X1, ⟨Lc1, hQ1, l1, y1, z1⟩, st1⟩ := X0.virtualBackUp hx (x := (⟨"com/example/murray_hill/murrayhill/store/RunStatus", "ordinal", "()I"⟩ : MethodName)) (y := (⟨"java/lang/Enum", "ordinal", "()I"⟩ : MethodName)) (owner := "java/lang/Enum") hown (mvT hZ (hw _ (List.mem_of_getElem? (i := 13) rfl))) (mvT hZ (hw _ (List.mem_of_getElem? (i := 14) rfl))) (mvT hZ (hw _ (List.mem_of_getElem? (i := 15) rfl))) (by decide) (mvT hZ (hw _ (List.mem_of_getElem? (i := 17) rfl))) (mvT hZ (hw _ (List.mem_of_getElem? (i := 16) rfl))) (backOf (W := 0) (rm3 l Z a0 hw [] r0 (0 : Int32) h0 n0 Z0 F0) hZ (hw _ (List.mem_of_getElem? (i := 19) rfl)) (hw _ (List.mem_of_getElem? (i := 18) rfl)) (by decide) (by decide)) q1a q1c (g := (mkF m 1 (LS_R r0) [(.ref r0)])) rfl (by rw [hml]; rfl) (Steps.refl _) (argsL := []) (rest := []) (lenOf pd___I rfl) rfl (by show 2 * 0 + _ ≤ _; exact Nat.le_of_eq rfl) (hb hby d2_1) (fun _ _ => ⟨rfl, e0, (by decide : 0 + 0 ≤ _), (by decide : 0 + 0 ≤ _)⟩)
  dsimp only [Pt.U, Pt.locs, Pt.cells, Pt.slots] at X1 l1 y1 z1 st1 hQ1
  subst l1 y1 z1
  obtain ⟨rfl, N1q, e1⟩ := hQ1
  have N1 := Fr.app N0 N1q
  refine own_go (B := T1.setTop (mkF m 4 (LS_R r0) [(.int (0 : Int32))])) (fun t k => st1.trans k) ?_
  refine own_go (B := T1.setTop (mkF m 75 (LS_R r0) [(.int (0 : Int32))])) (fun t k => ?_) ?_
  · show Steps p.tables e below (T1.setTop (mkF m 4 (LS_R r0) [(.int (0 : Int32))])) _
    refine XS.tswIn X1.here hx rfl (pc0 := 4) (pc' := 70) (o := 66) rfl (hb hby d2_4) rfl (by decide) (by decide) (by decide) (by decide) ?_
    show Steps p.tables e below (T1.setTop (mkF m 70 (LS_R r0) [])) _
    refine XS.iconst X1.here hx rfl (hb hby d2_70) ?_
    show Steps p.tables e below (T1.setTop (mkF m 71 (LS_R r0) [(.int (0 : Int32))])) _
    refine XS.goto X1.here hx rfl (pc0 := 71) (pc' := 75) rfl (hb hby d2_71) (by decide) (by decide) ?_
    exact k
  obtain ⟨fs, hr, hrun, hended, hW, hsame⟩ := X1.leave (v := some (.int (0 : Int32))) (fun h => by rw [Bd.returns] at h; cases h)
  refine ⟨_, _, ?_, hrun, hended, _, _, rfl, ?_, ⟨_, rfl⟩, hW, hsame.mono (by decide) (by decide)⟩
  · show Steps p.tables e below (T1.setTop (mkF m 75 (LS_R r0) [(.int (0 : Int32))])) _
    exact retN X1 hx (t := .boolean) Bd.returns (by simp) (hb hby d2_75) hr
  · show Q2_0 Z r0 h0 n0 _ T1.heap _
    rw [e1]
    exact ⟨rfl, N1, rfl⟩
theorem ef_2_1 (m : MethodId) (r0 : Addr) : entryFrame m #[(.ref r0)] 1 = mkF m 0 #[.val (.ref r0)] [] := by first | (simp [entryFrame, mkF, argsToLocals, Value.category]; done) | rfl
def Q2_1 (Z : State) (r0 : Addr) (h0 : Heap) (n0 : Nat) (v : Option Value) (h : Heap) (L : List Loc) : Prop := v = some (.int (0 : Int32)) ∧ Fr n0 L ∧ h = h0
set_option maxRecDepth 65536 in
set_option maxHeartbeats 40000000 in
theorem rm2_1 (l : Launch) (Z : State) (a0 : Array Value) (hw : ∀ d ∈ tables_1, d.before a0 Z = true) (ws : List Jvm.Cond) (r0 : Addr) (h0 : Heap) (n0 : Nat) (Z0 : n0 ≤ h0.size) (E0 : Exa Z h0 r0 "com/example/murray_hill/murrayhill/store/RunStatus") (F0 : Fld Z h0 r0 "java/lang/Enum" "ordinal" "I" (.int (1 : Int32))) :
    MetFree l (⟨"com/example/murray_hill/murrayhill/store/RunStatus", "isFinal", "()Z"⟩ : MethodName) (head1 (Jvm.Cond.code (⟨"com/example/murray_hill/murrayhill/store/RunStatus", "isFinal", "()Z"⟩ : MethodName) prog_56_method_5_code 1 (some .boolean) :: ws) ({ frames := 1, cells := 0, slots := 0, locals := 12 } : Room)) (fun a U => a = #[(.ref r0)] ∧ Z.Warmed39 U.vm ∧ U.heap = h0) (fun _ _ _ _ _ => True) (fun _ U o U' => ∃ v L, o = .returned v ∧ Q2_1 Z r0 h0 n0 v U'.heap L ∧ FrameEnd U o U' L ({ frames := 1, cells := 0, slots := 0, locals := 12 } : Room).cells ({ frames := 1, cells := 0, slots := 0, locals := 12 } : Room).slots) := by
  refine MetFree.of_bodySF (plainFor_of_name pn_2) hisR ?_
  intro p e s m args below meth c s₁ Bd hml0 hP hK
  obtain ⟨rfl, hZ, hh⟩ := hP
  have hx := Bd.exec
  have hby := Bd.bytes
  have hml : c.maxLocals = 1 := hml0
  have hown : s.vm.findClass "com/example/murray_hill/murrayhill/store/RunStatus" = some m.cls := findClass_of_methodNamed Bd.named
  have hnm := (name_of_methodNamed Bd.named Bd.method).1
  have X0 : Stand p l e ({ frames := 1, cells := 0, slots := 0, locals := 12 } : Room) s m #[(.ref r0)] below meth c s₁ [] 0 0 := Stand.of_body Bd
  have e0 : s₁.heap = h0 := by rw [← hh, Bd.state]; rfl
  have N0 := Fr.nil n0
  refine own_go (B := s₁.setTop (mkF m 0 (LS_R r0) [])) (fun t k => castTop (ef_2_1 m r0) k) ?_
  refine own_go (B := s₁.setTop (mkF m 1 (LS_R r0) [(.ref r0)])) (fun t k => ?_) ?_
  · show Steps p.tables e below (s₁.setTop (mkF m 0 (LS_R r0) [])) _
    refine XS.aloadN X0.here hx rfl (hb hby d2_0) rfl rfl ?_
    exact k
  obtain ⟨cq1, kq1, q1a, q1b, q1c⟩ := isOf hZ e0 E0
  obtain ⟨_, _, ⟨T1, L1, k1, n1⟩, -, X1, ⟨Lc1, hQ1, l1, y1, z1⟩, st1⟩ := X0.virtualBackUp hx (x := (⟨"com/example/murray_hill/murrayhill/store/RunStatus", "ordinal", "()I"⟩ : MethodName)) (y := (⟨"java/lang/Enum", "ordinal", "()I"⟩ : MethodName)) (owner := "java/lang/Enum") hown (mvT hZ (hw _ (List.mem_of_getElem? (i := 13) rfl))) (mvT hZ (hw _ (List.mem_of_getElem? (i := 14) rfl))) (mvT hZ (hw _ (List.mem_of_getElem? (i := 15) rfl))) (by decide) (mvT hZ (hw _ (List.mem_of_getElem? (i := 17) rfl))) (mvT hZ (hw _ (List.mem_of_getElem? (i := 16) rfl))) (backOf (W := 0) (rm3 l Z a0 hw [] r0 (1 : Int32) h0 n0 Z0 F0) hZ (hw _ (List.mem_of_getElem? (i := 19) rfl)) (hw _ (List.mem_of_getElem? (i := 18) rfl)) (by decide) (by decide)) q1a q1c (g := (mkF m 1 (LS_R r0) [(.ref r0)])) rfl (by rw [hml]; rfl) (Steps.refl _) (argsL := []) (rest := []) (lenOf pd___I rfl) rfl (by show 2 * 0 + _ ≤ _; exact Nat.le_of_eq rfl) (hb hby d2_1) (fun _ _ => ⟨rfl, e0, (by decide : 0 + 0 ≤ _), (by decide : 0 + 0 ≤ _)⟩)
  dsimp only [Pt.U, Pt.locs, Pt.cells, Pt.slots] at X1 l1 y1 z1 st1 hQ1
  subst l1 y1 z1
  obtain ⟨rfl, N1q, e1⟩ := hQ1
  have N1 := Fr.app N0 N1q
  refine own_go (B := T1.setTop (mkF m 4 (LS_R r0) [(.int (1 : Int32))])) (fun t k => st1.trans k) ?_
  refine own_go (B := T1.setTop (mkF m 75 (LS_R r0) [(.int (0 : Int32))])) (fun t k => ?_) ?_
  · show Steps p.tables e below (T1.setTop (mkF m 4 (LS_R r0) [(.int (1 : Int32))])) _
    refine XS.tswIn X1.here hx rfl (pc0 := 4) (pc' := 70) (o := 66) rfl (hb hby d2_4) rfl (by decide) (by decide) (by decide) (by decide) ?_
    show Steps p.tables e below (T1.setTop (mkF m 70 (LS_R r0) [])) _
    refine XS.iconst X1.here hx rfl (hb hby d2_70) ?_
    show Steps p.tables e below (T1.setTop (mkF m 71 (LS_R r0) [(.int (0 : Int32))])) _
    refine XS.goto X1.here hx rfl (pc0 := 71) (pc' := 75) rfl (hb hby d2_71) (by decide) (by decide) ?_
    exact k
  obtain ⟨fs, hr, hrun, hended, hW, hsame⟩ := X1.leave (v := some (.int (0 : Int32))) (fun h => by rw [Bd.returns] at h; cases h)
  refine ⟨_, _, ?_, hrun, hended, _, _, rfl, ?_, ⟨_, rfl⟩, hW, hsame.mono (by decide) (by decide)⟩
  · show Steps p.tables e below (T1.setTop (mkF m 75 (LS_R r0) [(.int (0 : Int32))])) _
    exact retN X1 hx (t := .boolean) Bd.returns (by simp) (hb hby d2_75) hr
  · show Q2_1 Z r0 h0 n0 _ T1.heap _
    rw [e1]
    exact ⟨rfl, N1, rfl⟩
theorem ef_2_2 (m : MethodId) (r0 : Addr) : entryFrame m #[(.ref r0)] 1 = mkF m 0 #[.val (.ref r0)] [] := by first | (simp [entryFrame, mkF, argsToLocals, Value.category]; done) | rfl
def Q2_2 (Z : State) (r0 : Addr) (h0 : Heap) (n0 : Nat) (v : Option Value) (h : Heap) (L : List Loc) : Prop := v = some (.int (0 : Int32)) ∧ Fr n0 L ∧ h = h0
set_option maxRecDepth 65536 in
set_option maxHeartbeats 40000000 in
theorem rm2_2 (l : Launch) (Z : State) (a0 : Array Value) (hw : ∀ d ∈ tables_1, d.before a0 Z = true) (ws : List Jvm.Cond) (r0 : Addr) (h0 : Heap) (n0 : Nat) (Z0 : n0 ≤ h0.size) (E0 : Exa Z h0 r0 "com/example/murray_hill/murrayhill/store/RunStatus") (F0 : Fld Z h0 r0 "java/lang/Enum" "ordinal" "I" (.int (2 : Int32))) :
    MetFree l (⟨"com/example/murray_hill/murrayhill/store/RunStatus", "isFinal", "()Z"⟩ : MethodName) (head1 (Jvm.Cond.code (⟨"com/example/murray_hill/murrayhill/store/RunStatus", "isFinal", "()Z"⟩ : MethodName) prog_56_method_5_code 1 (some .boolean) :: ws) ({ frames := 1, cells := 0, slots := 0, locals := 12 } : Room)) (fun a U => a = #[(.ref r0)] ∧ Z.Warmed39 U.vm ∧ U.heap = h0) (fun _ _ _ _ _ => True) (fun _ U o U' => ∃ v L, o = .returned v ∧ Q2_2 Z r0 h0 n0 v U'.heap L ∧ FrameEnd U o U' L ({ frames := 1, cells := 0, slots := 0, locals := 12 } : Room).cells ({ frames := 1, cells := 0, slots := 0, locals := 12 } : Room).slots) := by
  refine MetFree.of_bodySF (plainFor_of_name pn_2) hisR ?_
  intro p e s m args below meth c s₁ Bd hml0 hP hK
  obtain ⟨rfl, hZ, hh⟩ := hP
  have hx := Bd.exec
  have hby := Bd.bytes
  have hml : c.maxLocals = 1 := hml0
  have hown : s.vm.findClass "com/example/murray_hill/murrayhill/store/RunStatus" = some m.cls := findClass_of_methodNamed Bd.named
  have hnm := (name_of_methodNamed Bd.named Bd.method).1
  have X0 : Stand p l e ({ frames := 1, cells := 0, slots := 0, locals := 12 } : Room) s m #[(.ref r0)] below meth c s₁ [] 0 0 := Stand.of_body Bd
  have e0 : s₁.heap = h0 := by rw [← hh, Bd.state]; rfl
  have N0 := Fr.nil n0
  refine own_go (B := s₁.setTop (mkF m 0 (LS_R r0) [])) (fun t k => castTop (ef_2_2 m r0) k) ?_
  refine own_go (B := s₁.setTop (mkF m 1 (LS_R r0) [(.ref r0)])) (fun t k => ?_) ?_
  · show Steps p.tables e below (s₁.setTop (mkF m 0 (LS_R r0) [])) _
    refine XS.aloadN X0.here hx rfl (hb hby d2_0) rfl rfl ?_
    exact k
  obtain ⟨cq1, kq1, q1a, q1b, q1c⟩ := isOf hZ e0 E0
  obtain ⟨_, _, ⟨T1, L1, k1, n1⟩, -, X1, ⟨Lc1, hQ1, l1, y1, z1⟩, st1⟩ := X0.virtualBackUp hx (x := (⟨"com/example/murray_hill/murrayhill/store/RunStatus", "ordinal", "()I"⟩ : MethodName)) (y := (⟨"java/lang/Enum", "ordinal", "()I"⟩ : MethodName)) (owner := "java/lang/Enum") hown (mvT hZ (hw _ (List.mem_of_getElem? (i := 13) rfl))) (mvT hZ (hw _ (List.mem_of_getElem? (i := 14) rfl))) (mvT hZ (hw _ (List.mem_of_getElem? (i := 15) rfl))) (by decide) (mvT hZ (hw _ (List.mem_of_getElem? (i := 17) rfl))) (mvT hZ (hw _ (List.mem_of_getElem? (i := 16) rfl))) (backOf (W := 0) (rm3 l Z a0 hw [] r0 (2 : Int32) h0 n0 Z0 F0) hZ (hw _ (List.mem_of_getElem? (i := 19) rfl)) (hw _ (List.mem_of_getElem? (i := 18) rfl)) (by decide) (by decide)) q1a q1c (g := (mkF m 1 (LS_R r0) [(.ref r0)])) rfl (by rw [hml]; rfl) (Steps.refl _) (argsL := []) (rest := []) (lenOf pd___I rfl) rfl (by show 2 * 0 + _ ≤ _; exact Nat.le_of_eq rfl) (hb hby d2_1) (fun _ _ => ⟨rfl, e0, (by decide : 0 + 0 ≤ _), (by decide : 0 + 0 ≤ _)⟩)
  dsimp only [Pt.U, Pt.locs, Pt.cells, Pt.slots] at X1 l1 y1 z1 st1 hQ1
  subst l1 y1 z1
  obtain ⟨rfl, N1q, e1⟩ := hQ1
  have N1 := Fr.app N0 N1q
  refine own_go (B := T1.setTop (mkF m 4 (LS_R r0) [(.int (2 : Int32))])) (fun t k => st1.trans k) ?_
  refine own_go (B := T1.setTop (mkF m 75 (LS_R r0) [(.int (0 : Int32))])) (fun t k => ?_) ?_
  · show Steps p.tables e below (T1.setTop (mkF m 4 (LS_R r0) [(.int (2 : Int32))])) _
    refine XS.tswIn X1.here hx rfl (pc0 := 4) (pc' := 70) (o := 66) rfl (hb hby d2_4) rfl (by decide) (by decide) (by decide) (by decide) ?_
    show Steps p.tables e below (T1.setTop (mkF m 70 (LS_R r0) [])) _
    refine XS.iconst X1.here hx rfl (hb hby d2_70) ?_
    show Steps p.tables e below (T1.setTop (mkF m 71 (LS_R r0) [(.int (0 : Int32))])) _
    refine XS.goto X1.here hx rfl (pc0 := 71) (pc' := 75) rfl (hb hby d2_71) (by decide) (by decide) ?_
    exact k
  obtain ⟨fs, hr, hrun, hended, hW, hsame⟩ := X1.leave (v := some (.int (0 : Int32))) (fun h => by rw [Bd.returns] at h; cases h)
  refine ⟨_, _, ?_, hrun, hended, _, _, rfl, ?_, ⟨_, rfl⟩, hW, hsame.mono (by decide) (by decide)⟩
  · show Steps p.tables e below (T1.setTop (mkF m 75 (LS_R r0) [(.int (0 : Int32))])) _
    exact retN X1 hx (t := .boolean) Bd.returns (by simp) (hb hby d2_75) hr
  · show Q2_2 Z r0 h0 n0 _ T1.heap _
    rw [e1]
    exact ⟨rfl, N1, rfl⟩
theorem ef_2_3 (m : MethodId) (r0 : Addr) : entryFrame m #[(.ref r0)] 1 = mkF m 0 #[.val (.ref r0)] [] := by first | (simp [entryFrame, mkF, argsToLocals, Value.category]; done) | rfl
theorem d2_74 : decode prog_56_method_5_code 74 = .ok (.iconst 1, 1) := by decide +kernel
def Q2_3 (Z : State) (r0 : Addr) (h0 : Heap) (n0 : Nat) (v : Option Value) (h : Heap) (L : List Loc) : Prop := v = some (.int (1 : Int32)) ∧ Fr n0 L ∧ h = h0
set_option maxRecDepth 65536 in
set_option maxHeartbeats 40000000 in
theorem rm2_3 (l : Launch) (Z : State) (a0 : Array Value) (hw : ∀ d ∈ tables_1, d.before a0 Z = true) (ws : List Jvm.Cond) (r0 : Addr) (h0 : Heap) (n0 : Nat) (Z0 : n0 ≤ h0.size) (E0 : Exa Z h0 r0 "com/example/murray_hill/murrayhill/store/RunStatus") (F0 : Fld Z h0 r0 "java/lang/Enum" "ordinal" "I" (.int (3 : Int32))) :
    MetFree l (⟨"com/example/murray_hill/murrayhill/store/RunStatus", "isFinal", "()Z"⟩ : MethodName) (head1 (Jvm.Cond.code (⟨"com/example/murray_hill/murrayhill/store/RunStatus", "isFinal", "()Z"⟩ : MethodName) prog_56_method_5_code 1 (some .boolean) :: ws) ({ frames := 1, cells := 0, slots := 0, locals := 12 } : Room)) (fun a U => a = #[(.ref r0)] ∧ Z.Warmed39 U.vm ∧ U.heap = h0) (fun _ _ _ _ _ => True) (fun _ U o U' => ∃ v L, o = .returned v ∧ Q2_3 Z r0 h0 n0 v U'.heap L ∧ FrameEnd U o U' L ({ frames := 1, cells := 0, slots := 0, locals := 12 } : Room).cells ({ frames := 1, cells := 0, slots := 0, locals := 12 } : Room).slots) := by
  refine MetFree.of_bodySF (plainFor_of_name pn_2) hisR ?_
  intro p e s m args below meth c s₁ Bd hml0 hP hK
  obtain ⟨rfl, hZ, hh⟩ := hP
  have hx := Bd.exec
  have hby := Bd.bytes
  have hml : c.maxLocals = 1 := hml0
  have hown : s.vm.findClass "com/example/murray_hill/murrayhill/store/RunStatus" = some m.cls := findClass_of_methodNamed Bd.named
  have hnm := (name_of_methodNamed Bd.named Bd.method).1
  have X0 : Stand p l e ({ frames := 1, cells := 0, slots := 0, locals := 12 } : Room) s m #[(.ref r0)] below meth c s₁ [] 0 0 := Stand.of_body Bd
  have e0 : s₁.heap = h0 := by rw [← hh, Bd.state]; rfl
  have N0 := Fr.nil n0
  refine own_go (B := s₁.setTop (mkF m 0 (LS_R r0) [])) (fun t k => castTop (ef_2_3 m r0) k) ?_
  refine own_go (B := s₁.setTop (mkF m 1 (LS_R r0) [(.ref r0)])) (fun t k => ?_) ?_
  · show Steps p.tables e below (s₁.setTop (mkF m 0 (LS_R r0) [])) _
    refine XS.aloadN X0.here hx rfl (hb hby d2_0) rfl rfl ?_
    exact k
  obtain ⟨cq1, kq1, q1a, q1b, q1c⟩ := isOf hZ e0 E0
  obtain ⟨_, _, ⟨T1, L1, k1, n1⟩, -, X1, ⟨Lc1, hQ1, l1, y1, z1⟩, st1⟩ := X0.virtualBackUp hx (x := (⟨"com/example/murray_hill/murrayhill/store/RunStatus", "ordinal", "()I"⟩ : MethodName)) (y := (⟨"java/lang/Enum", "ordinal", "()I"⟩ : MethodName)) (owner := "java/lang/Enum") hown (mvT hZ (hw _ (List.mem_of_getElem? (i := 13) rfl))) (mvT hZ (hw _ (List.mem_of_getElem? (i := 14) rfl))) (mvT hZ (hw _ (List.mem_of_getElem? (i := 15) rfl))) (by decide) (mvT hZ (hw _ (List.mem_of_getElem? (i := 17) rfl))) (mvT hZ (hw _ (List.mem_of_getElem? (i := 16) rfl))) (backOf (W := 0) (rm3 l Z a0 hw [] r0 (3 : Int32) h0 n0 Z0 F0) hZ (hw _ (List.mem_of_getElem? (i := 19) rfl)) (hw _ (List.mem_of_getElem? (i := 18) rfl)) (by decide) (by decide)) q1a q1c (g := (mkF m 1 (LS_R r0) [(.ref r0)])) rfl (by rw [hml]; rfl) (Steps.refl _) (argsL := []) (rest := []) (lenOf pd___I rfl) rfl (by show 2 * 0 + _ ≤ _; exact Nat.le_of_eq rfl) (hb hby d2_1) (fun _ _ => ⟨rfl, e0, (by decide : 0 + 0 ≤ _), (by decide : 0 + 0 ≤ _)⟩)
  dsimp only [Pt.U, Pt.locs, Pt.cells, Pt.slots] at X1 l1 y1 z1 st1 hQ1
  subst l1 y1 z1
  obtain ⟨rfl, N1q, e1⟩ := hQ1
  have N1 := Fr.app N0 N1q
  refine own_go (B := T1.setTop (mkF m 4 (LS_R r0) [(.int (3 : Int32))])) (fun t k => st1.trans k) ?_
  refine own_go (B := T1.setTop (mkF m 75 (LS_R r0) [(.int (1 : Int32))])) (fun t k => ?_) ?_
  · show Steps p.tables e below (T1.setTop (mkF m 4 (LS_R r0) [(.int (3 : Int32))])) _
    refine XS.tswIn X1.here hx rfl (pc0 := 4) (pc' := 74) (o := 70) rfl (hb hby d2_4) rfl (by decide) (by decide) (by decide) (by decide) ?_
    show Steps p.tables e below (T1.setTop (mkF m 74 (LS_R r0) [])) _
    refine XS.iconst X1.here hx rfl (hb hby d2_74) ?_
    exact k
  obtain ⟨fs, hr, hrun, hended, hW, hsame⟩ := X1.leave (v := some (.int (1 : Int32))) (fun h => by rw [Bd.returns] at h; cases h)
  refine ⟨_, _, ?_, hrun, hended, _, _, rfl, ?_, ⟨_, rfl⟩, hW, hsame.mono (by decide) (by decide)⟩
  · show Steps p.tables e below (T1.setTop (mkF m 75 (LS_R r0) [(.int (1 : Int32))])) _
    exact retN X1 hx (t := .boolean) Bd.returns (by simp) (hb hby d2_75) hr
  · show Q2_3 Z r0 h0 n0 _ T1.heap _
    rw [e1]
    exact ⟨rfl, N1, rfl⟩
theorem ef_2_4 (m : MethodId) (r0 : Addr) : entryFrame m #[(.ref r0)] 1 = mkF m 0 #[.val (.ref r0)] [] := by first | (simp [entryFrame, mkF, argsToLocals, Value.category]; done) | rfl
def Q2_4 (Z : State) (r0 : Addr) (h0 : Heap) (n0 : Nat) (v : Option Value) (h : Heap) (L : List Loc) : Prop := v = some (.int (1 : Int32)) ∧ Fr n0 L ∧ h = h0
set_option maxRecDepth 65536 in
set_option maxHeartbeats 40000000 in
theorem rm2_4 (l : Launch) (Z : State) (a0 : Array Value) (hw : ∀ d ∈ tables_1, d.before a0 Z = true) (ws : List Jvm.Cond) (r0 : Addr) (h0 : Heap) (n0 : Nat) (Z0 : n0 ≤ h0.size) (E0 : Exa Z h0 r0 "com/example/murray_hill/murrayhill/store/RunStatus") (F0 : Fld Z h0 r0 "java/lang/Enum" "ordinal" "I" (.int (4 : Int32))) :
    MetFree l (⟨"com/example/murray_hill/murrayhill/store/RunStatus", "isFinal", "()Z"⟩ : MethodName) (head1 (Jvm.Cond.code (⟨"com/example/murray_hill/murrayhill/store/RunStatus", "isFinal", "()Z"⟩ : MethodName) prog_56_method_5_code 1 (some .boolean) :: ws) ({ frames := 1, cells := 0, slots := 0, locals := 12 } : Room)) (fun a U => a = #[(.ref r0)] ∧ Z.Warmed39 U.vm ∧ U.heap = h0) (fun _ _ _ _ _ => True) (fun _ U o U' => ∃ v L, o = .returned v ∧ Q2_4 Z r0 h0 n0 v U'.heap L ∧ FrameEnd U o U' L ({ frames := 1, cells := 0, slots := 0, locals := 12 } : Room).cells ({ frames := 1, cells := 0, slots := 0, locals := 12 } : Room).slots) := by
  refine MetFree.of_bodySF (plainFor_of_name pn_2) hisR ?_
  intro p e s m args below meth c s₁ Bd hml0 hP hK
  obtain ⟨rfl, hZ, hh⟩ := hP
  have hx := Bd.exec
  have hby := Bd.bytes
  have hml : c.maxLocals = 1 := hml0
  have hown : s.vm.findClass "com/example/murray_hill/murrayhill/store/RunStatus" = some m.cls := findClass_of_methodNamed Bd.named
  have hnm := (name_of_methodNamed Bd.named Bd.method).1
  have X0 : Stand p l e ({ frames := 1, cells := 0, slots := 0, locals := 12 } : Room) s m #[(.ref r0)] below meth c s₁ [] 0 0 := Stand.of_body Bd
  have e0 : s₁.heap = h0 := by rw [← hh, Bd.state]; rfl
  have N0 := Fr.nil n0
  refine own_go (B := s₁.setTop (mkF m 0 (LS_R r0) [])) (fun t k => castTop (ef_2_4 m r0) k) ?_
  refine own_go (B := s₁.setTop (mkF m 1 (LS_R r0) [(.ref r0)])) (fun t k => ?_) ?_
  · show Steps p.tables e below (s₁.setTop (mkF m 0 (LS_R r0) [])) _
    refine XS.aloadN X0.here hx rfl (hb hby d2_0) rfl rfl ?_
    exact k
  obtain ⟨cq1, kq1, q1a, q1b, q1c⟩ := isOf hZ e0 E0
  obtain ⟨_, _, ⟨T1, L1, k1, n1⟩, -, X1, ⟨Lc1, hQ1, l1, y1, z1⟩, st1⟩ := X0.virtualBackUp hx (x := (⟨"com/example/murray_hill/murrayhill/store/RunStatus", "ordinal", "()I"⟩ : MethodName)) (y := (⟨"java/lang/Enum", "ordinal", "()I"⟩ : MethodName)) (owner := "java/lang/Enum") hown (mvT hZ (hw _ (List.mem_of_getElem? (i := 13) rfl))) (mvT hZ (hw _ (List.mem_of_getElem? (i := 14) rfl))) (mvT hZ (hw _ (List.mem_of_getElem? (i := 15) rfl))) (by decide) (mvT hZ (hw _ (List.mem_of_getElem? (i := 17) rfl))) (mvT hZ (hw _ (List.mem_of_getElem? (i := 16) rfl))) (backOf (W := 0) (rm3 l Z a0 hw [] r0 (4 : Int32) h0 n0 Z0 F0) hZ (hw _ (List.mem_of_getElem? (i := 19) rfl)) (hw _ (List.mem_of_getElem? (i := 18) rfl)) (by decide) (by decide)) q1a q1c (g := (mkF m 1 (LS_R r0) [(.ref r0)])) rfl (by rw [hml]; rfl) (Steps.refl _) (argsL := []) (rest := []) (lenOf pd___I rfl) rfl (by show 2 * 0 + _ ≤ _; exact Nat.le_of_eq rfl) (hb hby d2_1) (fun _ _ => ⟨rfl, e0, (by decide : 0 + 0 ≤ _), (by decide : 0 + 0 ≤ _)⟩)
  dsimp only [Pt.U, Pt.locs, Pt.cells, Pt.slots] at X1 l1 y1 z1 st1 hQ1
  subst l1 y1 z1
  obtain ⟨rfl, N1q, e1⟩ := hQ1
  have N1 := Fr.app N0 N1q
  refine own_go (B := T1.setTop (mkF m 4 (LS_R r0) [(.int (4 : Int32))])) (fun t k => st1.trans k) ?_
  refine own_go (B := T1.setTop (mkF m 75 (LS_R r0) [(.int (1 : Int32))])) (fun t k => ?_) ?_
  · show Steps p.tables e below (T1.setTop (mkF m 4 (LS_R r0) [(.int (4 : Int32))])) _
    refine XS.tswIn X1.here hx rfl (pc0 := 4) (pc' := 74) (o := 70) rfl (hb hby d2_4) rfl (by decide) (by decide) (by decide) (by decide) ?_
    show Steps p.tables e below (T1.setTop (mkF m 74 (LS_R r0) [])) _
    refine XS.iconst X1.here hx rfl (hb hby d2_74) ?_
    exact k
  obtain ⟨fs, hr, hrun, hended, hW, hsame⟩ := X1.leave (v := some (.int (1 : Int32))) (fun h => by rw [Bd.returns] at h; cases h)
  refine ⟨_, _, ?_, hrun, hended, _, _, rfl, ?_, ⟨_, rfl⟩, hW, hsame.mono (by decide) (by decide)⟩
  · show Steps p.tables e below (T1.setTop (mkF m 75 (LS_R r0) [(.int (1 : Int32))])) _
    exact retN X1 hx (t := .boolean) Bd.returns (by simp) (hb hby d2_75) hr
  · show Q2_4 Z r0 h0 n0 _ T1.heap _
    rw [e1]
    exact ⟨rfl, N1, rfl⟩
theorem ef_2_5 (m : MethodId) (r0 : Addr) : entryFrame m #[(.ref r0)] 1 = mkF m 0 #[.val (.ref r0)] [] := by first | (simp [entryFrame, mkF, argsToLocals, Value.category]; done) | rfl
def Q2_5 (Z : State) (r0 : Addr) (h0 : Heap) (n0 : Nat) (v : Option Value) (h : Heap) (L : List Loc) : Prop := v = some (.int (1 : Int32)) ∧ Fr n0 L ∧ h = h0
set_option maxRecDepth 65536 in
set_option maxHeartbeats 40000000 in
theorem rm2_5 (l : Launch) (Z : State) (a0 : Array Value) (hw : ∀ d ∈ tables_1, d.before a0 Z = true) (ws : List Jvm.Cond) (r0 : Addr) (h0 : Heap) (n0 : Nat) (Z0 : n0 ≤ h0.size) (E0 : Exa Z h0 r0 "com/example/murray_hill/murrayhill/store/RunStatus") (F0 : Fld Z h0 r0 "java/lang/Enum" "ordinal" "I" (.int (5 : Int32))) :
    MetFree l (⟨"com/example/murray_hill/murrayhill/store/RunStatus", "isFinal", "()Z"⟩ : MethodName) (head1 (Jvm.Cond.code (⟨"com/example/murray_hill/murrayhill/store/RunStatus", "isFinal", "()Z"⟩ : MethodName) prog_56_method_5_code 1 (some .boolean) :: ws) ({ frames := 1, cells := 0, slots := 0, locals := 12 } : Room)) (fun a U => a = #[(.ref r0)] ∧ Z.Warmed39 U.vm ∧ U.heap = h0) (fun _ _ _ _ _ => True) (fun _ U o U' => ∃ v L, o = .returned v ∧ Q2_5 Z r0 h0 n0 v U'.heap L ∧ FrameEnd U o U' L ({ frames := 1, cells := 0, slots := 0, locals := 12 } : Room).cells ({ frames := 1, cells := 0, slots := 0, locals := 12 } : Room).slots) := by
  refine MetFree.of_bodySF (plainFor_of_name pn_2) hisR ?_
  intro p e s m args below meth c s₁ Bd hml0 hP hK
  obtain ⟨rfl, hZ, hh⟩ := hP
  have hx := Bd.exec
  have hby := Bd.bytes
  have hml : c.maxLocals = 1 := hml0
  have hown : s.vm.findClass "com/example/murray_hill/murrayhill/store/RunStatus" = some m.cls := findClass_of_methodNamed Bd.named
  have hnm := (name_of_methodNamed Bd.named Bd.method).1
  have X0 : Stand p l e ({ frames := 1, cells := 0, slots := 0, locals := 12 } : Room) s m #[(.ref r0)] below meth c s₁ [] 0 0 := Stand.of_body Bd
  have e0 : s₁.heap = h0 := by rw [← hh, Bd.state]; rfl
  have N0 := Fr.nil n0
  refine own_go (B := s₁.setTop (mkF m 0 (LS_R r0) [])) (fun t k => castTop (ef_2_5 m r0) k) ?_
  refine own_go (B := s₁.setTop (mkF m 1 (LS_R r0) [(.ref r0)])) (fun t k => ?_) ?_
  · show Steps p.tables e below (s₁.setTop (mkF m 0 (LS_R r0) [])) _
    refine XS.aloadN X0.here hx rfl (hb hby d2_0) rfl rfl ?_
    exact k
  obtain ⟨cq1, kq1, q1a, q1b, q1c⟩ := isOf hZ e0 E0
  obtain ⟨_, _, ⟨T1, L1, k1, n1⟩, -, X1, ⟨Lc1, hQ1, l1, y1, z1⟩, st1⟩ := X0.virtualBackUp hx (x := (⟨"com/example/murray_hill/murrayhill/store/RunStatus", "ordinal", "()I"⟩ : MethodName)) (y := (⟨"java/lang/Enum", "ordinal", "()I"⟩ : MethodName)) (owner := "java/lang/Enum") hown (mvT hZ (hw _ (List.mem_of_getElem? (i := 13) rfl))) (mvT hZ (hw _ (List.mem_of_getElem? (i := 14) rfl))) (mvT hZ (hw _ (List.mem_of_getElem? (i := 15) rfl))) (by decide) (mvT hZ (hw _ (List.mem_of_getElem? (i := 17) rfl))) (mvT hZ (hw _ (List.mem_of_getElem? (i := 16) rfl))) (backOf (W := 0) (rm3 l Z a0 hw [] r0 (5 : Int32) h0 n0 Z0 F0) hZ (hw _ (List.mem_of_getElem? (i := 19) rfl)) (hw _ (List.mem_of_getElem? (i := 18) rfl)) (by decide) (by decide)) q1a q1c (g := (mkF m 1 (LS_R r0) [(.ref r0)])) rfl (by rw [hml]; rfl) (Steps.refl _) (argsL := []) (rest := []) (lenOf pd___I rfl) rfl (by show 2 * 0 + _ ≤ _; exact Nat.le_of_eq rfl) (hb hby d2_1) (fun _ _ => ⟨rfl, e0, (by decide : 0 + 0 ≤ _), (by decide : 0 + 0 ≤ _)⟩)
  dsimp only [Pt.U, Pt.locs, Pt.cells, Pt.slots] at X1 l1 y1 z1 st1 hQ1
  subst l1 y1 z1
  obtain ⟨rfl, N1q, e1⟩ := hQ1
  have N1 := Fr.app N0 N1q
  refine own_go (B := T1.setTop (mkF m 4 (LS_R r0) [(.int (5 : Int32))])) (fun t k => st1.trans k) ?_
  refine own_go (B := T1.setTop (mkF m 75 (LS_R r0) [(.int (1 : Int32))])) (fun t k => ?_) ?_
  · show Steps p.tables e below (T1.setTop (mkF m 4 (LS_R r0) [(.int (5 : Int32))])) _
    refine XS.tswIn X1.here hx rfl (pc0 := 4) (pc' := 74) (o := 70) rfl (hb hby d2_4) rfl (by decide) (by decide) (by decide) (by decide) ?_
    show Steps p.tables e below (T1.setTop (mkF m 74 (LS_R r0) [])) _
    refine XS.iconst X1.here hx rfl (hb hby d2_74) ?_
    exact k
  obtain ⟨fs, hr, hrun, hended, hW, hsame⟩ := X1.leave (v := some (.int (1 : Int32))) (fun h => by rw [Bd.returns] at h; cases h)
  refine ⟨_, _, ?_, hrun, hended, _, _, rfl, ?_, ⟨_, rfl⟩, hW, hsame.mono (by decide) (by decide)⟩
  · show Steps p.tables e below (T1.setTop (mkF m 75 (LS_R r0) [(.int (1 : Int32))])) _
    exact retN X1 hx (t := .boolean) Bd.returns (by simp) (hb hby d2_75) hr
  · show Q2_5 Z r0 h0 n0 _ T1.heap _
    rw [e1]
    exact ⟨rfl, N1, rfl⟩
theorem ef_2_6 (m : MethodId) (r0 : Addr) : entryFrame m #[(.ref r0)] 1 = mkF m 0 #[.val (.ref r0)] [] := by first | (simp [entryFrame, mkF, argsToLocals, Value.category]; done) | rfl
def Q2_6 (Z : State) (r0 : Addr) (h0 : Heap) (n0 : Nat) (v : Option Value) (h : Heap) (L : List Loc) : Prop := v = some (.int (1 : Int32)) ∧ Fr n0 L ∧ h = h0
set_option maxRecDepth 65536 in
set_option maxHeartbeats 40000000 in
theorem rm2_6 (l : Launch) (Z : State) (a0 : Array Value) (hw : ∀ d ∈ tables_1, d.before a0 Z = true) (ws : List Jvm.Cond) (r0 : Addr) (h0 : Heap) (n0 : Nat) (Z0 : n0 ≤ h0.size) (E0 : Exa Z h0 r0 "com/example/murray_hill/murrayhill/store/RunStatus") (F0 : Fld Z h0 r0 "java/lang/Enum" "ordinal" "I" (.int (6 : Int32))) :
    MetFree l (⟨"com/example/murray_hill/murrayhill/store/RunStatus", "isFinal", "()Z"⟩ : MethodName) (head1 (Jvm.Cond.code (⟨"com/example/murray_hill/murrayhill/store/RunStatus", "isFinal", "()Z"⟩ : MethodName) prog_56_method_5_code 1 (some .boolean) :: ws) ({ frames := 1, cells := 0, slots := 0, locals := 12 } : Room)) (fun a U => a = #[(.ref r0)] ∧ Z.Warmed39 U.vm ∧ U.heap = h0) (fun _ _ _ _ _ => True) (fun _ U o U' => ∃ v L, o = .returned v ∧ Q2_6 Z r0 h0 n0 v U'.heap L ∧ FrameEnd U o U' L ({ frames := 1, cells := 0, slots := 0, locals := 12 } : Room).cells ({ frames := 1, cells := 0, slots := 0, locals := 12 } : Room).slots) := by
  refine MetFree.of_bodySF (plainFor_of_name pn_2) hisR ?_
  intro p e s m args below meth c s₁ Bd hml0 hP hK
  obtain ⟨rfl, hZ, hh⟩ := hP
  have hx := Bd.exec
  have hby := Bd.bytes
  have hml : c.maxLocals = 1 := hml0
  have hown : s.vm.findClass "com/example/murray_hill/murrayhill/store/RunStatus" = some m.cls := findClass_of_methodNamed Bd.named
  have hnm := (name_of_methodNamed Bd.named Bd.method).1
  have X0 : Stand p l e ({ frames := 1, cells := 0, slots := 0, locals := 12 } : Room) s m #[(.ref r0)] below meth c s₁ [] 0 0 := Stand.of_body Bd
  have e0 : s₁.heap = h0 := by rw [← hh, Bd.state]; rfl
  have N0 := Fr.nil n0
  refine own_go (B := s₁.setTop (mkF m 0 (LS_R r0) [])) (fun t k => castTop (ef_2_6 m r0) k) ?_
  refine own_go (B := s₁.setTop (mkF m 1 (LS_R r0) [(.ref r0)])) (fun t k => ?_) ?_
  · show Steps p.tables e below (s₁.setTop (mkF m 0 (LS_R r0) [])) _
    refine XS.aloadN X0.here hx rfl (hb hby d2_0) rfl rfl ?_
    exact k
  obtain ⟨cq1, kq1, q1a, q1b, q1c⟩ := isOf hZ e0 E0
  obtain ⟨_, _, ⟨T1, L1, k1, n1⟩, -, X1, ⟨Lc1, hQ1, l1, y1, z1⟩, st1⟩ := X0.virtualBackUp hx (x := (⟨"com/example/murray_hill/murrayhill/store/RunStatus", "ordinal", "()I"⟩ : MethodName)) (y := (⟨"java/lang/Enum", "ordinal", "()I"⟩ : MethodName)) (owner := "java/lang/Enum") hown (mvT hZ (hw _ (List.mem_of_getElem? (i := 13) rfl))) (mvT hZ (hw _ (List.mem_of_getElem? (i := 14) rfl))) (mvT hZ (hw _ (List.mem_of_getElem? (i := 15) rfl))) (by decide) (mvT hZ (hw _ (List.mem_of_getElem? (i := 17) rfl))) (mvT hZ (hw _ (List.mem_of_getElem? (i := 16) rfl))) (backOf (W := 0) (rm3 l Z a0 hw [] r0 (6 : Int32) h0 n0 Z0 F0) hZ (hw _ (List.mem_of_getElem? (i := 19) rfl)) (hw _ (List.mem_of_getElem? (i := 18) rfl)) (by decide) (by decide)) q1a q1c (g := (mkF m 1 (LS_R r0) [(.ref r0)])) rfl (by rw [hml]; rfl) (Steps.refl _) (argsL := []) (rest := []) (lenOf pd___I rfl) rfl (by show 2 * 0 + _ ≤ _; exact Nat.le_of_eq rfl) (hb hby d2_1) (fun _ _ => ⟨rfl, e0, (by decide : 0 + 0 ≤ _), (by decide : 0 + 0 ≤ _)⟩)
  dsimp only [Pt.U, Pt.locs, Pt.cells, Pt.slots] at X1 l1 y1 z1 st1 hQ1
  subst l1 y1 z1
  obtain ⟨rfl, N1q, e1⟩ := hQ1
  have N1 := Fr.app N0 N1q
  refine own_go (B := T1.setTop (mkF m 4 (LS_R r0) [(.int (6 : Int32))])) (fun t k => st1.trans k) ?_
  refine own_go (B := T1.setTop (mkF m 75 (LS_R r0) [(.int (1 : Int32))])) (fun t k => ?_) ?_
  · show Steps p.tables e below (T1.setTop (mkF m 4 (LS_R r0) [(.int (6 : Int32))])) _
    refine XS.tswIn X1.here hx rfl (pc0 := 4) (pc' := 74) (o := 70) rfl (hb hby d2_4) rfl (by decide) (by decide) (by decide) (by decide) ?_
    show Steps p.tables e below (T1.setTop (mkF m 74 (LS_R r0) [])) _
    refine XS.iconst X1.here hx rfl (hb hby d2_74) ?_
    exact k
  obtain ⟨fs, hr, hrun, hended, hW, hsame⟩ := X1.leave (v := some (.int (1 : Int32))) (fun h => by rw [Bd.returns] at h; cases h)
  refine ⟨_, _, ?_, hrun, hended, _, _, rfl, ?_, ⟨_, rfl⟩, hW, hsame.mono (by decide) (by decide)⟩
  · show Steps p.tables e below (T1.setTop (mkF m 75 (LS_R r0) [(.int (1 : Int32))])) _
    exact retN X1 hx (t := .boolean) Bd.returns (by simp) (hb hby d2_75) hr
  · show Q2_6 Z r0 h0 n0 _ T1.heap _
    rw [e1]
    exact ⟨rfl, N1, rfl⟩
theorem ef_2_7 (m : MethodId) (r0 : Addr) : entryFrame m #[(.ref r0)] 1 = mkF m 0 #[.val (.ref r0)] [] := by first | (simp [entryFrame, mkF, argsToLocals, Value.category]; done) | rfl
def Q2_7 (Z : State) (r0 : Addr) (h0 : Heap) (n0 : Nat) (v : Option Value) (h : Heap) (L : List Loc) : Prop := v = some (.int (1 : Int32)) ∧ Fr n0 L ∧ h = h0
set_option maxRecDepth 65536 in
set_option maxHeartbeats 40000000 in
theorem rm2_7 (l : Launch) (Z : State) (a0 : Array Value) (hw : ∀ d ∈ tables_1, d.before a0 Z = true) (ws : List Jvm.Cond) (r0 : Addr) (h0 : Heap) (n0 : Nat) (Z0 : n0 ≤ h0.size) (E0 : Exa Z h0 r0 "com/example/murray_hill/murrayhill/store/RunStatus") (F0 : Fld Z h0 r0 "java/lang/Enum" "ordinal" "I" (.int (7 : Int32))) :
    MetFree l (⟨"com/example/murray_hill/murrayhill/store/RunStatus", "isFinal", "()Z"⟩ : MethodName) (head1 (Jvm.Cond.code (⟨"com/example/murray_hill/murrayhill/store/RunStatus", "isFinal", "()Z"⟩ : MethodName) prog_56_method_5_code 1 (some .boolean) :: ws) ({ frames := 1, cells := 0, slots := 0, locals := 12 } : Room)) (fun a U => a = #[(.ref r0)] ∧ Z.Warmed39 U.vm ∧ U.heap = h0) (fun _ _ _ _ _ => True) (fun _ U o U' => ∃ v L, o = .returned v ∧ Q2_7 Z r0 h0 n0 v U'.heap L ∧ FrameEnd U o U' L ({ frames := 1, cells := 0, slots := 0, locals := 12 } : Room).cells ({ frames := 1, cells := 0, slots := 0, locals := 12 } : Room).slots) := by
  refine MetFree.of_bodySF (plainFor_of_name pn_2) hisR ?_
  intro p e s m args below meth c s₁ Bd hml0 hP hK
  obtain ⟨rfl, hZ, hh⟩ := hP
  have hx := Bd.exec
  have hby := Bd.bytes
  have hml : c.maxLocals = 1 := hml0
  have hown : s.vm.findClass "com/example/murray_hill/murrayhill/store/RunStatus" = some m.cls := findClass_of_methodNamed Bd.named
  have hnm := (name_of_methodNamed Bd.named Bd.method).1
  have X0 : Stand p l e ({ frames := 1, cells := 0, slots := 0, locals := 12 } : Room) s m #[(.ref r0)] below meth c s₁ [] 0 0 := Stand.of_body Bd
  have e0 : s₁.heap = h0 := by rw [← hh, Bd.state]; rfl
  have N0 := Fr.nil n0
  refine own_go (B := s₁.setTop (mkF m 0 (LS_R r0) [])) (fun t k => castTop (ef_2_7 m r0) k) ?_
  refine own_go (B := s₁.setTop (mkF m 1 (LS_R r0) [(.ref r0)])) (fun t k => ?_) ?_
  · show Steps p.tables e below (s₁.setTop (mkF m 0 (LS_R r0) [])) _
    refine XS.aloadN X0.here hx rfl (hb hby d2_0) rfl rfl ?_
    exact k
  obtain ⟨cq1, kq1, q1a, q1b, q1c⟩ := isOf hZ e0 E0
  obtain ⟨_, _, ⟨T1, L1, k1, n1⟩, -, X1, ⟨Lc1, hQ1, l1, y1, z1⟩, st1⟩ := X0.virtualBackUp hx (x := (⟨"com/example/murray_hill/murrayhill/store/RunStatus", "ordinal", "()I"⟩ : MethodName)) (y := (⟨"java/lang/Enum", "ordinal", "()I"⟩ : MethodName)) (owner := "java/lang/Enum") hown (mvT hZ (hw _ (List.mem_of_getElem? (i := 13) rfl))) (mvT hZ (hw _ (List.mem_of_getElem? (i := 14) rfl))) (mvT hZ (hw _ (List.mem_of_getElem? (i := 15) rfl))) (by decide) (mvT hZ (hw _ (List.mem_of_getElem? (i := 17) rfl))) (mvT hZ (hw _ (List.mem_of_getElem? (i := 16) rfl))) (backOf (W := 0) (rm3 l Z a0 hw [] r0 (7 : Int32) h0 n0 Z0 F0) hZ (hw _ (List.mem_of_getElem? (i := 19) rfl)) (hw _ (List.mem_of_getElem? (i := 18) rfl)) (by decide) (by decide)) q1a q1c (g := (mkF m 1 (LS_R r0) [(.ref r0)])) rfl (by rw [hml]; rfl) (Steps.refl _) (argsL := []) (rest := []) (lenOf pd___I rfl) rfl (by show 2 * 0 + _ ≤ _; exact Nat.le_of_eq rfl) (hb hby d2_1) (fun _ _ => ⟨rfl, e0, (by decide : 0 + 0 ≤ _), (by decide : 0 + 0 ≤ _)⟩)
  dsimp only [Pt.U, Pt.locs, Pt.cells, Pt.slots] at X1 l1 y1 z1 st1 hQ1
  subst l1 y1 z1
  obtain ⟨rfl, N1q, e1⟩ := hQ1
  have N1 := Fr.app N0 N1q
  refine own_go (B := T1.setTop (mkF m 4 (LS_R r0) [(.int (7 : Int32))])) (fun t k => st1.trans k) ?_
  refine own_go (B := T1.setTop (mkF m 75 (LS_R r0) [(.int (1 : Int32))])) (fun t k => ?_) ?_
  · show Steps p.tables e below (T1.setTop (mkF m 4 (LS_R r0) [(.int (7 : Int32))])) _
    refine XS.tswIn X1.here hx rfl (pc0 := 4) (pc' := 74) (o := 70) rfl (hb hby d2_4) rfl (by decide) (by decide) (by decide) (by decide) ?_
    show Steps p.tables e below (T1.setTop (mkF m 74 (LS_R r0) [])) _
    refine XS.iconst X1.here hx rfl (hb hby d2_74) ?_
    exact k
  obtain ⟨fs, hr, hrun, hended, hW, hsame⟩ := X1.leave (v := some (.int (1 : Int32))) (fun h => by rw [Bd.returns] at h; cases h)
  refine ⟨_, _, ?_, hrun, hended, _, _, rfl, ?_, ⟨_, rfl⟩, hW, hsame.mono (by decide) (by decide)⟩
  · show Steps p.tables e below (T1.setTop (mkF m 75 (LS_R r0) [(.int (1 : Int32))])) _
    exact retN X1 hx (t := .boolean) Bd.returns (by simp) (hb hby d2_75) hr
  · show Q2_7 Z r0 h0 n0 _ T1.heap _
    rw [e1]
    exact ⟨rfl, N1, rfl⟩
theorem ef_2_8 (m : MethodId) (r0 : Addr) : entryFrame m #[(.ref r0)] 1 = mkF m 0 #[.val (.ref r0)] [] := by first | (simp [entryFrame, mkF, argsToLocals, Value.category]; done) | rfl
def Q2_8 (Z : State) (r0 : Addr) (h0 : Heap) (n0 : Nat) (v : Option Value) (h : Heap) (L : List Loc) : Prop := v = some (.int (1 : Int32)) ∧ Fr n0 L ∧ h = h0
set_option maxRecDepth 65536 in
set_option maxHeartbeats 40000000 in
theorem rm2_8 (l : Launch) (Z : State) (a0 : Array Value) (hw : ∀ d ∈ tables_1, d.before a0 Z = true) (ws : List Jvm.Cond) (r0 : Addr) (h0 : Heap) (n0 : Nat) (Z0 : n0 ≤ h0.size) (E0 : Exa Z h0 r0 "com/example/murray_hill/murrayhill/store/RunStatus") (F0 : Fld Z h0 r0 "java/lang/Enum" "ordinal" "I" (.int (8 : Int32))) :
    MetFree l (⟨"com/example/murray_hill/murrayhill/store/RunStatus", "isFinal", "()Z"⟩ : MethodName) (head1 (Jvm.Cond.code (⟨"com/example/murray_hill/murrayhill/store/RunStatus", "isFinal", "()Z"⟩ : MethodName) prog_56_method_5_code 1 (some .boolean) :: ws) ({ frames := 1, cells := 0, slots := 0, locals := 12 } : Room)) (fun a U => a = #[(.ref r0)] ∧ Z.Warmed39 U.vm ∧ U.heap = h0) (fun _ _ _ _ _ => True) (fun _ U o U' => ∃ v L, o = .returned v ∧ Q2_8 Z r0 h0 n0 v U'.heap L ∧ FrameEnd U o U' L ({ frames := 1, cells := 0, slots := 0, locals := 12 } : Room).cells ({ frames := 1, cells := 0, slots := 0, locals := 12 } : Room).slots) := by
  refine MetFree.of_bodySF (plainFor_of_name pn_2) hisR ?_
  intro p e s m args below meth c s₁ Bd hml0 hP hK
  obtain ⟨rfl, hZ, hh⟩ := hP
  have hx := Bd.exec
  have hby := Bd.bytes
  have hml : c.maxLocals = 1 := hml0
  have hown : s.vm.findClass "com/example/murray_hill/murrayhill/store/RunStatus" = some m.cls := findClass_of_methodNamed Bd.named
  have hnm := (name_of_methodNamed Bd.named Bd.method).1
  have X0 : Stand p l e ({ frames := 1, cells := 0, slots := 0, locals := 12 } : Room) s m #[(.ref r0)] below meth c s₁ [] 0 0 := Stand.of_body Bd
  have e0 : s₁.heap = h0 := by rw [← hh, Bd.state]; rfl
  have N0 := Fr.nil n0
  refine own_go (B := s₁.setTop (mkF m 0 (LS_R r0) [])) (fun t k => castTop (ef_2_8 m r0) k) ?_
  refine own_go (B := s₁.setTop (mkF m 1 (LS_R r0) [(.ref r0)])) (fun t k => ?_) ?_
  · show Steps p.tables e below (s₁.setTop (mkF m 0 (LS_R r0) [])) _
    refine XS.aloadN X0.here hx rfl (hb hby d2_0) rfl rfl ?_
    exact k
  obtain ⟨cq1, kq1, q1a, q1b, q1c⟩ := isOf hZ e0 E0
  obtain ⟨_, _, ⟨T1, L1, k1, n1⟩, -, X1, ⟨Lc1, hQ1, l1, y1, z1⟩, st1⟩ := X0.virtualBackUp hx (x := (⟨"com/example/murray_hill/murrayhill/store/RunStatus", "ordinal", "()I"⟩ : MethodName)) (y := (⟨"java/lang/Enum", "ordinal", "()I"⟩ : MethodName)) (owner := "java/lang/Enum") hown (mvT hZ (hw _ (List.mem_of_getElem? (i := 13) rfl))) (mvT hZ (hw _ (List.mem_of_getElem? (i := 14) rfl))) (mvT hZ (hw _ (List.mem_of_getElem? (i := 15) rfl))) (by decide) (mvT hZ (hw _ (List.mem_of_getElem? (i := 17) rfl))) (mvT hZ (hw _ (List.mem_of_getElem? (i := 16) rfl))) (backOf (W := 0) (rm3 l Z a0 hw [] r0 (8 : Int32) h0 n0 Z0 F0) hZ (hw _ (List.mem_of_getElem? (i := 19) rfl)) (hw _ (List.mem_of_getElem? (i := 18) rfl)) (by decide) (by decide)) q1a q1c (g := (mkF m 1 (LS_R r0) [(.ref r0)])) rfl (by rw [hml]; rfl) (Steps.refl _) (argsL := []) (rest := []) (lenOf pd___I rfl) rfl (by show 2 * 0 + _ ≤ _; exact Nat.le_of_eq rfl) (hb hby d2_1) (fun _ _ => ⟨rfl, e0, (by decide : 0 + 0 ≤ _), (by decide : 0 + 0 ≤ _)⟩)
  dsimp only [Pt.U, Pt.locs, Pt.cells, Pt.slots] at X1 l1 y1 z1 st1 hQ1
  subst l1 y1 z1
  obtain ⟨rfl, N1q, e1⟩ := hQ1
  have N1 := Fr.app N0 N1q
  refine own_go (B := T1.setTop (mkF m 4 (LS_R r0) [(.int (8 : Int32))])) (fun t k => st1.trans k) ?_
  refine own_go (B := T1.setTop (mkF m 75 (LS_R r0) [(.int (1 : Int32))])) (fun t k => ?_) ?_
  · show Steps p.tables e below (T1.setTop (mkF m 4 (LS_R r0) [(.int (8 : Int32))])) _
    refine XS.tswIn X1.here hx rfl (pc0 := 4) (pc' := 74) (o := 70) rfl (hb hby d2_4) rfl (by decide) (by decide) (by decide) (by decide) ?_
    show Steps p.tables e below (T1.setTop (mkF m 74 (LS_R r0) [])) _
    refine XS.iconst X1.here hx rfl (hb hby d2_74) ?_
    exact k
  obtain ⟨fs, hr, hrun, hended, hW, hsame⟩ := X1.leave (v := some (.int (1 : Int32))) (fun h => by rw [Bd.returns] at h; cases h)
  refine ⟨_, _, ?_, hrun, hended, _, _, rfl, ?_, ⟨_, rfl⟩, hW, hsame.mono (by decide) (by decide)⟩
  · show Steps p.tables e below (T1.setTop (mkF m 75 (LS_R r0) [(.int (1 : Int32))])) _
    exact retN X1 hx (t := .boolean) Bd.returns (by simp) (hb hby d2_75) hr
  · show Q2_8 Z r0 h0 n0 _ T1.heap _
    rw [e1]
    exact ⟨rfl, N1, rfl⟩
theorem ef_2_9 (m : MethodId) (r0 : Addr) : entryFrame m #[(.ref r0)] 1 = mkF m 0 #[.val (.ref r0)] [] := by first | (simp [entryFrame, mkF, argsToLocals, Value.category]; done) | rfl
def Q2_9 (Z : State) (r0 : Addr) (h0 : Heap) (n0 : Nat) (v : Option Value) (h : Heap) (L : List Loc) : Prop := v = some (.int (1 : Int32)) ∧ Fr n0 L ∧ h = h0
set_option maxRecDepth 65536 in
set_option maxHeartbeats 40000000 in
theorem rm2_9 (l : Launch) (Z : State) (a0 : Array Value) (hw : ∀ d ∈ tables_1, d.before a0 Z = true) (ws : List Jvm.Cond) (r0 : Addr) (h0 : Heap) (n0 : Nat) (Z0 : n0 ≤ h0.size) (E0 : Exa Z h0 r0 "com/example/murray_hill/murrayhill/store/RunStatus") (F0 : Fld Z h0 r0 "java/lang/Enum" "ordinal" "I" (.int (9 : Int32))) :
    MetFree l (⟨"com/example/murray_hill/murrayhill/store/RunStatus", "isFinal", "()Z"⟩ : MethodName) (head1 (Jvm.Cond.code (⟨"com/example/murray_hill/murrayhill/store/RunStatus", "isFinal", "()Z"⟩ : MethodName) prog_56_method_5_code 1 (some .boolean) :: ws) ({ frames := 1, cells := 0, slots := 0, locals := 12 } : Room)) (fun a U => a = #[(.ref r0)] ∧ Z.Warmed39 U.vm ∧ U.heap = h0) (fun _ _ _ _ _ => True) (fun _ U o U' => ∃ v L, o = .returned v ∧ Q2_9 Z r0 h0 n0 v U'.heap L ∧ FrameEnd U o U' L ({ frames := 1, cells := 0, slots := 0, locals := 12 } : Room).cells ({ frames := 1, cells := 0, slots := 0, locals := 12 } : Room).slots) := by
  refine MetFree.of_bodySF (plainFor_of_name pn_2) hisR ?_
  intro p e s m args below meth c s₁ Bd hml0 hP hK
  obtain ⟨rfl, hZ, hh⟩ := hP
  have hx := Bd.exec
  have hby := Bd.bytes
  have hml : c.maxLocals = 1 := hml0
  have hown : s.vm.findClass "com/example/murray_hill/murrayhill/store/RunStatus" = some m.cls := findClass_of_methodNamed Bd.named
  have hnm := (name_of_methodNamed Bd.named Bd.method).1
  have X0 : Stand p l e ({ frames := 1, cells := 0, slots := 0, locals := 12 } : Room) s m #[(.ref r0)] below meth c s₁ [] 0 0 := Stand.of_body Bd
  have e0 : s₁.heap = h0 := by rw [← hh, Bd.state]; rfl
  have N0 := Fr.nil n0
  refine own_go (B := s₁.setTop (mkF m 0 (LS_R r0) [])) (fun t k => castTop (ef_2_9 m r0) k) ?_
  refine own_go (B := s₁.setTop (mkF m 1 (LS_R r0) [(.ref r0)])) (fun t k => ?_) ?_
  · show Steps p.tables e below (s₁.setTop (mkF m 0 (LS_R r0) [])) _
    refine XS.aloadN X0.here hx rfl (hb hby d2_0) rfl rfl ?_
    exact k
  obtain ⟨cq1, kq1, q1a, q1b, q1c⟩ := isOf hZ e0 E0
  obtain ⟨_, _, ⟨T1, L1, k1, n1⟩, -, X1, ⟨Lc1, hQ1, l1, y1, z1⟩, st1⟩ := X0.virtualBackUp hx (x := (⟨"com/example/murray_hill/murrayhill/store/RunStatus", "ordinal", "()I"⟩ : MethodName)) (y := (⟨"java/lang/Enum", "ordinal", "()I"⟩ : MethodName)) (owner := "java/lang/Enum") hown (mvT hZ (hw _ (List.mem_of_getElem? (i := 13) rfl))) (mvT hZ (hw _ (List.mem_of_getElem? (i := 14) rfl))) (mvT hZ (hw _ (List.mem_of_getElem? (i := 15) rfl))) (by decide) (mvT hZ (hw _ (List.mem_of_getElem? (i := 17) rfl))) (mvT hZ (hw _ (List.mem_of_getElem? (i := 16) rfl))) (backOf (W := 0) (rm3 l Z a0 hw [] r0 (9 : Int32) h0 n0 Z0 F0) hZ (hw _ (List.mem_of_getElem? (i := 19) rfl)) (hw _ (List.mem_of_getElem? (i := 18) rfl)) (by decide) (by decide)) q1a q1c (g := (mkF m 1 (LS_R r0) [(.ref r0)])) rfl (by rw [hml]; rfl) (Steps.refl _) (argsL := []) (rest := []) (lenOf pd___I rfl) rfl (by show 2 * 0 + _ ≤ _; exact Nat.le_of_eq rfl) (hb hby d2_1) (fun _ _ => ⟨rfl, e0, (by decide : 0 + 0 ≤ _), (by decide : 0 + 0 ≤ _)⟩)
  dsimp only [Pt.U, Pt.locs, Pt.cells, Pt.slots] at X1 l1 y1 z1 st1 hQ1
  subst l1 y1 z1
  obtain ⟨rfl, N1q, e1⟩ := hQ1
  have N1 := Fr.app N0 N1q
  refine own_go (B := T1.setTop (mkF m 4 (LS_R r0) [(.int (9 : Int32))])) (fun t k => st1.trans k) ?_
  refine own_go (B := T1.setTop (mkF m 75 (LS_R r0) [(.int (1 : Int32))])) (fun t k => ?_) ?_
  · show Steps p.tables e below (T1.setTop (mkF m 4 (LS_R r0) [(.int (9 : Int32))])) _
    refine XS.tswIn X1.here hx rfl (pc0 := 4) (pc' := 74) (o := 70) rfl (hb hby d2_4) rfl (by decide) (by decide) (by decide) (by decide) ?_
    show Steps p.tables e below (T1.setTop (mkF m 74 (LS_R r0) [])) _
    refine XS.iconst X1.here hx rfl (hb hby d2_74) ?_
    exact k
  obtain ⟨fs, hr, hrun, hended, hW, hsame⟩ := X1.leave (v := some (.int (1 : Int32))) (fun h => by rw [Bd.returns] at h; cases h)
  refine ⟨_, _, ?_, hrun, hended, _, _, rfl, ?_, ⟨_, rfl⟩, hW, hsame.mono (by decide) (by decide)⟩
  · show Steps p.tables e below (T1.setTop (mkF m 75 (LS_R r0) [(.int (1 : Int32))])) _
    exact retN X1 hx (t := .boolean) Bd.returns (by simp) (hb hby d2_75) hr
  · show Q2_9 Z r0 h0 n0 _ T1.heap _
    rw [e1]
    exact ⟨rfl, N1, rfl⟩
theorem ef_0 (m : MethodId) (p0 : Int32) : entryFrame m #[(.int p0)] maxLocals = mkF m 0 #[.val (.int p0), .unset, .unset, .unset, .unset] [] := by first | (simp [entryFrame, mkF, argsToLocals, Value.category, maxLocals]; done) | rfl
theorem pn_0 : plainName "com/example/murray_hill/murrayhill/store/RunStatusIsFinalPinLaw" = true := by first | (simp [plainName, overriddenIn]; done) | decide +kernel
abbrev LS_Iuuuu (a0 : Int32) : Array Slot := #[.val (.int a0), .unset, .unset, .unset, .unset]
abbrev LS_IIuuu (a0 : Int32) (a1 : Int32) : Array Slot := #[.val (.int a0), .val (.int a1), .unset, .unset, .unset]
theorem pd__I_Lcom_example_murray_hill_murrayhill_store_RunStatus_ : parseMethodDescriptor "(I)Lcom/example/murray_hill/murrayhill/store/RunStatus;" = some ⟨[.int], some (.object "com/example/murray_hill/murrayhill/store/RunStatus")⟩ := by decide +kernel
abbrev LS_IIRuu (a0 : Int32) (a1 : Int32) (a2 : Addr) : Array Slot := #[.val (.int a0), .val (.int a1), .val (.ref a2), .unset, .unset]
abbrev LS_IIRIu (a0 : Int32) (a1 : Int32) (a2 : Addr) (a3 : Int32) : Array Slot := #[.val (.int a0), .val (.int a1), .val (.ref a2), .val (.int a3), .unset]
abbrev LS_IIRII (a0 : Int32) (a1 : Int32) (a2 : Addr) (a3 : Int32) (a4 : Int32) : Array Slot := #[.val (.int a0), .val (.int a1), .val (.ref a2), .val (.int a3), .val (.int a4)]
theorem pd___Z : parseMethodDescriptor "()Z" = some ⟨[], some .boolean⟩ := by decide +kernel
def Q0 (Z : State) (p0 : Int32) (w_RunStatus_QUEUED : Addr) (w_RunStatus_SUCCEEDED : Addr) (w_RunStatus_RUNNING : Addr) (w_RunStatus_PARTIAL : Addr) (w_RunStatus_CANCELED : Addr) (w_RunStatus_RETRYING : Addr) (w_RunStatus_INTERRUPTED : Addr) (w_RunStatus_SKIPPED : Addr) (w_RunStatus_FAILED : Addr) (w_RunStatus_TIMED_OUT : Addr) (h0 : Heap) (n0 : Nat) (v : Option Value) (h : Heap) (L : List Loc) : Prop := v = some (.int (1 : Int32)) ∧ Fr n0 L
set_option maxRecDepth 65536 in
set_option maxHeartbeats 40000000 in
theorem rm0 (l : Launch) (Z : State) (a0 : Array Value) (hw : ∀ d ∈ tables_1, d.before a0 Z = true) (ws : List Jvm.Cond) (p0 : Int32) (w_RunStatus_QUEUED : Addr) (w_RunStatus_SUCCEEDED : Addr) (w_RunStatus_RUNNING : Addr) (w_RunStatus_PARTIAL : Addr) (w_RunStatus_CANCELED : Addr) (w_RunStatus_RETRYING : Addr) (w_RunStatus_INTERRUPTED : Addr) (w_RunStatus_SKIPPED : Addr) (w_RunStatus_FAILED : Addr) (w_RunStatus_TIMED_OUT : Addr) (h0 : Heap) (n0 : Nat) (Z0 : n0 ≤ h0.size) (S_RunStatus_QUEUED : Sta Z h0 "com/example/murray_hill/murrayhill/store/RunStatus" "QUEUED" "Lcom/example/murray_hill/murrayhill/store/RunStatus;" (.ref w_RunStatus_QUEUED)) (E_RunStatus_QUEUED : Exa Z h0 w_RunStatus_QUEUED "com/example/murray_hill/murrayhill/store/RunStatus") (S_RunStatus_SUCCEEDED : Sta Z h0 "com/example/murray_hill/murrayhill/store/RunStatus" "SUCCEEDED" "Lcom/example/murray_hill/murrayhill/store/RunStatus;" (.ref w_RunStatus_SUCCEEDED)) (E_RunStatus_SUCCEEDED : Exa Z h0 w_RunStatus_SUCCEEDED "com/example/murray_hill/murrayhill/store/RunStatus") (S_RunStatus_RUNNING : Sta Z h0 "com/example/murray_hill/murrayhill/store/RunStatus" "RUNNING" "Lcom/example/murray_hill/murrayhill/store/RunStatus;" (.ref w_RunStatus_RUNNING)) (E_RunStatus_RUNNING : Exa Z h0 w_RunStatus_RUNNING "com/example/murray_hill/murrayhill/store/RunStatus") (S_RunStatus_PARTIAL : Sta Z h0 "com/example/murray_hill/murrayhill/store/RunStatus" "PARTIAL" "Lcom/example/murray_hill/murrayhill/store/RunStatus;" (.ref w_RunStatus_PARTIAL)) (E_RunStatus_PARTIAL : Exa Z h0 w_RunStatus_PARTIAL "com/example/murray_hill/murrayhill/store/RunStatus") (S_RunStatus_CANCELED : Sta Z h0 "com/example/murray_hill/murrayhill/store/RunStatus" "CANCELED" "Lcom/example/murray_hill/murrayhill/store/RunStatus;" (.ref w_RunStatus_CANCELED)) (E_RunStatus_CANCELED : Exa Z h0 w_RunStatus_CANCELED "com/example/murray_hill/murrayhill/store/RunStatus") (S_RunStatus_RETRYING : Sta Z h0 "com/example/murray_hill/murrayhill/store/RunStatus" "RETRYING" "Lcom/example/murray_hill/murrayhill/store/RunStatus;" (.ref w_RunStatus_RETRYING)) (E_RunStatus_RETRYING : Exa Z h0 w_RunStatus_RETRYING "com/example/murray_hill/murrayhill/store/RunStatus") (S_RunStatus_INTERRUPTED : Sta Z h0 "com/example/murray_hill/murrayhill/store/RunStatus" "INTERRUPTED" "Lcom/example/murray_hill/murrayhill/store/RunStatus;" (.ref w_RunStatus_INTERRUPTED)) (E_RunStatus_INTERRUPTED : Exa Z h0 w_RunStatus_INTERRUPTED "com/example/murray_hill/murrayhill/store/RunStatus") (S_RunStatus_SKIPPED : Sta Z h0 "com/example/murray_hill/murrayhill/store/RunStatus" "SKIPPED" "Lcom/example/murray_hill/murrayhill/store/RunStatus;" (.ref w_RunStatus_SKIPPED)) (E_RunStatus_SKIPPED : Exa Z h0 w_RunStatus_SKIPPED "com/example/murray_hill/murrayhill/store/RunStatus") (S_RunStatus_FAILED : Sta Z h0 "com/example/murray_hill/murrayhill/store/RunStatus" "FAILED" "Lcom/example/murray_hill/murrayhill/store/RunStatus;" (.ref w_RunStatus_FAILED)) (E_RunStatus_FAILED : Exa Z h0 w_RunStatus_FAILED "com/example/murray_hill/murrayhill/store/RunStatus") (S_RunStatus_TIMED_OUT : Sta Z h0 "com/example/murray_hill/murrayhill/store/RunStatus" "TIMED_OUT" "Lcom/example/murray_hill/murrayhill/store/RunStatus;" (.ref w_RunStatus_TIMED_OUT)) (E_RunStatus_TIMED_OUT : Exa Z h0 w_RunStatus_TIMED_OUT "com/example/murray_hill/murrayhill/store/RunStatus") (F_RunStatus_QUEUED_ordinal : Fld Z h0 w_RunStatus_QUEUED "java/lang/Enum" "ordinal" "I" (.int (0 : Int32))) (F_RunStatus_SUCCEEDED_ordinal : Fld Z h0 w_RunStatus_SUCCEEDED "java/lang/Enum" "ordinal" "I" (.int (3 : Int32))) (F_RunStatus_RUNNING_ordinal : Fld Z h0 w_RunStatus_RUNNING "java/lang/Enum" "ordinal" "I" (.int (1 : Int32))) (F_RunStatus_PARTIAL_ordinal : Fld Z h0 w_RunStatus_PARTIAL "java/lang/Enum" "ordinal" "I" (.int (4 : Int32))) (F_RunStatus_CANCELED_ordinal : Fld Z h0 w_RunStatus_CANCELED "java/lang/Enum" "ordinal" "I" (.int (7 : Int32))) (F_RunStatus_RETRYING_ordinal : Fld Z h0 w_RunStatus_RETRYING "java/lang/Enum" "ordinal" "I" (.int (2 : Int32))) (F_RunStatus_INTERRUPTED_ordinal : Fld Z h0 w_RunStatus_INTERRUPTED "java/lang/Enum" "ordinal" "I" (.int (8 : Int32))) (F_RunStatus_SKIPPED_ordinal : Fld Z h0 w_RunStatus_SKIPPED "java/lang/Enum" "ordinal" "I" (.int (9 : Int32))) (F_RunStatus_FAILED_ordinal : Fld Z h0 w_RunStatus_FAILED "java/lang/Enum" "ordinal" "I" (.int (5 : Int32))) (F_RunStatus_TIMED_OUT_ordinal : Fld Z h0 w_RunStatus_TIMED_OUT "java/lang/Enum" "ordinal" "I" (.int (6 : Int32))) :
    MetFree l x (head1 (Jvm.Cond.code x code maxLocals ret :: ws) room_1) (fun a U => a = #[(.int p0)] ∧ Z.Warmed39 U.vm ∧ U.heap = h0) (fun _ _ _ _ _ => True) (fun _ U o U' => ∃ v L, o = .returned v ∧ Q0 Z p0 w_RunStatus_QUEUED w_RunStatus_SUCCEEDED w_RunStatus_RUNNING w_RunStatus_PARTIAL w_RunStatus_CANCELED w_RunStatus_RETRYING w_RunStatus_INTERRUPTED w_RunStatus_SKIPPED w_RunStatus_FAILED w_RunStatus_TIMED_OUT h0 n0 v U'.heap L ∧ FrameEnd U o U' L room_1.cells room_1.slots) := by
  refine MetFree.of_bodySF (plainFor_of_name pn_0) hisR ?_
  intro p e s m args below meth c s₁ Bd hml0 hP hK
  obtain ⟨rfl, hZ, hh⟩ := hP
  have hx := Bd.exec
  have hby := Bd.bytes
  have hml : c.maxLocals = 5 := hml0
  have hown : s.vm.findClass "com/example/murray_hill/murrayhill/store/RunStatusIsFinalPinLaw" = some m.cls := findClass_of_methodNamed Bd.named
  have hnm := (name_of_methodNamed Bd.named Bd.method).1
  have X0 : Stand p l e room_1 s m #[(.int p0)] below meth c s₁ [] 0 0 := Stand.of_body Bd
  have e0 : s₁.heap = h0 := by rw [← hh, Bd.state]; rfl
  have N0 := Fr.nil n0
  refine own_go (B := s₁.setTop (mkF m 0 (LS_Iuuuu p0) [])) (fun t k => castTop (ef_0 m p0) k) ?_
  refine own_go (B := s₁.setTop (mkF m 7 (LS_Iuuuu p0) [(.int ((p0 &&& (2147483647 : Int32)) % (10 : Int32)))])) (fun t k => ?_) ?_
  · show Steps p.tables e below (s₁.setTop (mkF m 0 (LS_Iuuuu p0) [])) _
    refine XS.iloadN X0.here hx rfl (hb hby at_0) rfl ?_
    show Steps p.tables e below (s₁.setTop (mkF m 1 (LS_Iuuuu p0) [(.int p0)])) _
    refine X0.ldcInt hx hown (mvT hZ (hw _ (List.mem_of_getElem? (i := 0) rfl))) (g := (mkF m 1 (LS_Iuuuu p0) [(.int p0)])) rfl (hb hby at_1) _ ?_
    show Steps p.tables e below (s₁.setTop (mkF m 3 (LS_Iuuuu p0) [(.int (2147483647 : Int32)), (.int p0)])) _
    refine XS.iand X0.here hx rfl (hb hby at_3) rfl ?_
    show Steps p.tables e below (s₁.setTop (mkF m 4 (LS_Iuuuu p0) [(.int (p0 &&& (2147483647 : Int32)))])) _
    refine XS.bipush X0.here hx rfl (hb hby at_4) ?_
    show Steps p.tables e below (s₁.setTop (mkF m 6 (LS_Iuuuu p0) [(.int (10 : Int32)), (.int (p0 &&& (2147483647 : Int32)))])) _
    refine Jvm.RoadKit.iremM X0 hx rfl (hb hby at_6) rfl (by decide) ?_
    exact k
  rcases own_mod10 p0 with hk1 | hk1 | hk1 | hk1 | hk1 | hk1 | hk1 | hk1 | hk1 | hk1
  · rw [hk1]
    refine own_go (B := s₁.setTop (mkF m 9 (LS_IIuuu p0 (0 : Int32)) [(.int (0 : Int32))])) (fun t k => ?_) ?_
    · show Steps p.tables e below (s₁.setTop (mkF m 7 (LS_Iuuuu p0) [(.int (0 : Int32))])) _
      refine XS.istoreN X0.here hx rfl (hb hby at_7) rfl (l' := (LS_IIuuu p0 (0 : Int32))) rfl ?_
      show Steps p.tables e below (s₁.setTop (mkF m 8 (LS_IIuuu p0 (0 : Int32)) [])) _
      refine XS.iloadN X0.here hx rfl (hb hby at_8) rfl ?_
      exact k
    obtain ⟨_, _, ⟨T2, L2, k2, n2⟩, -, X2, ⟨Lc2, hQ2, l2, y2, z2⟩, st2⟩ := Jvm.LawKit.callS X0 hx (y := (⟨"com/example/murray_hill/murrayhill/store/RunStatusIsFinalPinLaw", "pick", "(I)Lcom/example/murray_hill/murrayhill/store/RunStatus;"⟩ : MethodName)) hown (mvT hZ (hw _ (List.mem_of_getElem? (i := 1) rfl))) (mvT hZ (hw _ (List.mem_of_getElem? (i := 2) rfl))) (mvT hZ (hw _ (List.mem_of_getElem? (i := 3) rfl))) (mvT hZ (hw _ (List.mem_of_getElem? (i := 4) rfl))) (by decide) (backOf (W := 0) (rm1_0 l Z a0 hw [] w_RunStatus_QUEUED h0 n0 Z0 S_RunStatus_QUEUED) hZ (hw _ (List.mem_of_getElem? (i := 4) rfl)) (hw _ (List.mem_of_getElem? (i := 3) rfl)) (by decide) (by decide)) (g := (mkF m 9 (LS_IIuuu p0 (0 : Int32)) [(.int (0 : Int32))])) rfl (by rw [hml]; rfl) (argsL := [(.int (0 : Int32))]) (rest := []) (lenOf pd__I_Lcom_example_murray_hill_murrayhill_store_RunStatus_ rfl) rfl (by show 2 * 0 + _ ≤ _; exact Nat.le_of_eq rfl) (hb hby at_9) (fun _ _ => ⟨rfl, e0, (by decide : 0 + 0 ≤ _), (by decide : 0 + 0 ≤ _)⟩)
    dsimp only [Pt.U, Pt.locs, Pt.cells, Pt.slots] at X2 l2 y2 z2 st2 hQ2
    subst l2 y2 z2
    obtain ⟨rfl, N2q, e2⟩ := hQ2
    have N2 := Fr.app N0 N2q
    refine own_go (B := T2.setTop (mkF m 12 (LS_IIuuu p0 (0 : Int32)) [(.ref w_RunStatus_QUEUED)])) (fun t k => st2 _ k) ?_
    refine own_go (B := T2.setTop (mkF m 36 (LS_IIRII p0 (0 : Int32) w_RunStatus_QUEUED (1 : Int32) (0 : Int32)) [(.ref w_RunStatus_QUEUED)])) (fun t k => ?_) ?_
    · show Steps p.tables e below (T2.setTop (mkF m 12 (LS_IIuuu p0 (0 : Int32)) [(.ref w_RunStatus_QUEUED)])) _
      refine XS.astoreN X2.here hx rfl (hb hby at_12) rfl rfl (l' := (LS_IIRuu p0 (0 : Int32) w_RunStatus_QUEUED)) rfl ?_
      show Steps p.tables e below (T2.setTop (mkF m 13 (LS_IIRuu p0 (0 : Int32) w_RunStatus_QUEUED) [])) _
      refine XS.iloadN X2.here hx rfl (hb hby at_13) rfl ?_
      show Steps p.tables e below (T2.setTop (mkF m 14 (LS_IIRuu p0 (0 : Int32) w_RunStatus_QUEUED) [(.int (0 : Int32))])) _
      refine XS.iconst X2.here hx rfl (hb hby at_14) ?_
      show Steps p.tables e below (T2.setTop (mkF m 15 (LS_IIRuu p0 (0 : Int32) w_RunStatus_QUEUED) [(.int (3 : Int32)), (.int (0 : Int32))])) _
      refine XS.icmpNo X2.here hx rfl (hb hby at_15) rfl (tlt (by decide : (0 : Int32) < (3 : Int32))).2.1 ?_
      show Steps p.tables e below (T2.setTop (mkF m 18 (LS_IIRuu p0 (0 : Int32) w_RunStatus_QUEUED) [])) _
      refine XS.iconst X2.here hx rfl (hb hby at_18) ?_
      show Steps p.tables e below (T2.setTop (mkF m 19 (LS_IIRuu p0 (0 : Int32) w_RunStatus_QUEUED) [(.int (1 : Int32))])) _
      refine XS.goto X2.here hx rfl (pc0 := 19) (pc' := 23) rfl (hb hby at_19) (by decide) (by decide) ?_
      show Steps p.tables e below (T2.setTop (mkF m 23 (LS_IIRuu p0 (0 : Int32) w_RunStatus_QUEUED) [(.int (1 : Int32))])) _
      refine XS.istoreN X2.here hx rfl (hb hby at_23) rfl (l' := (LS_IIRIu p0 (0 : Int32) w_RunStatus_QUEUED (1 : Int32))) rfl ?_
      show Steps p.tables e below (T2.setTop (mkF m 24 (LS_IIRIu p0 (0 : Int32) w_RunStatus_QUEUED (1 : Int32)) [])) _
      refine XS.iloadN X2.here hx rfl (hb hby at_24) rfl ?_
      show Steps p.tables e below (T2.setTop (mkF m 25 (LS_IIRIu p0 (0 : Int32) w_RunStatus_QUEUED (1 : Int32)) [(.int (1 : Int32))])) _
      refine XS.ifYes X2.here hx rfl (pc0 := 25) (pc' := 32) rfl (hb hby at_25) rfl ((if0 _ _).trans (feq (by decide : ¬ ((1 : Int32) = (0 : Int32)))).2) (by decide) (by decide) ?_
      show Steps p.tables e below (T2.setTop (mkF m 32 (LS_IIRIu p0 (0 : Int32) w_RunStatus_QUEUED (1 : Int32)) [])) _
      refine XS.iconst X2.here hx rfl (hb hby at_32) ?_
      show Steps p.tables e below (T2.setTop (mkF m 33 (LS_IIRIu p0 (0 : Int32) w_RunStatus_QUEUED (1 : Int32)) [(.int (0 : Int32))])) _
      refine XS.istore X2.here hx rfl (hb hby at_33) rfl (l' := (LS_IIRII p0 (0 : Int32) w_RunStatus_QUEUED (1 : Int32) (0 : Int32))) rfl ?_
      show Steps p.tables e below (T2.setTop (mkF m 35 (LS_IIRII p0 (0 : Int32) w_RunStatus_QUEUED (1 : Int32) (0 : Int32)) [])) _
      refine XS.aloadN X2.here hx rfl (hb hby at_35) rfl rfl ?_
      exact k
    obtain ⟨cq3, kq3, q3a, q3b, q3c⟩ := isOf hZ e2 E_RunStatus_QUEUED
    obtain ⟨_, _, ⟨T3, L3, k3, n3⟩, -, X3, ⟨Lc3, hQ3, l3, y3, z3⟩, st3⟩ := X2.virtualBack hx (y := (⟨"com/example/murray_hill/murrayhill/store/RunStatus", "isFinal", "()Z"⟩ : MethodName)) (z := (⟨"com/example/murray_hill/murrayhill/store/RunStatus", "isFinal", "()Z"⟩ : MethodName)) hown (mvT hZ (hw _ (List.mem_of_getElem? (i := 8) rfl))) (mvT hZ (hw _ (List.mem_of_getElem? (i := 9) rfl))) (notFace_of_selects (args := #[]) (mvT hZ (hw _ (List.mem_of_getElem? (i := 11) rfl)))) (mvT hZ (hw _ (List.mem_of_getElem? (i := 11) rfl))) (mvT hZ (hw _ (List.mem_of_getElem? (i := 10) rfl))) (by decide) (backOf (W := 0) (rm2_0 l Z a0 hw [] w_RunStatus_QUEUED h0 n0 Z0 E_RunStatus_QUEUED F_RunStatus_QUEUED_ordinal) hZ (hw _ (List.mem_of_getElem? (i := 12) rfl)) (hw _ (List.mem_of_getElem? (i := 6) rfl)) (by decide) (by decide)) q3a q3c (g := (mkF m 36 (LS_IIRII p0 (0 : Int32) w_RunStatus_QUEUED (1 : Int32) (0 : Int32)) [(.ref w_RunStatus_QUEUED)])) rfl (by rw [hml]; rfl) (Steps.refl _) (argsL := []) (rest := []) (lenOf pd___Z rfl) rfl (by show 2 * 0 + _ ≤ _; exact Nat.le_of_eq rfl) (hb hby at_36) (fun _ _ => ⟨rfl, e2, (by decide : 0 + 0 ≤ _), (by decide : 0 + 0 ≤ _)⟩)
    dsimp only [Pt.U, Pt.locs, Pt.cells, Pt.slots] at X3 l3 y3 z3 st3 hQ3
    subst l3 y3 z3
    obtain ⟨rfl, N3q, e3⟩ := hQ3
    have N3 := Fr.app N2 N3q
    refine own_go (B := T3.setTop (mkF m 39 (LS_IIRII p0 (0 : Int32) w_RunStatus_QUEUED (1 : Int32) (0 : Int32)) [(.int (0 : Int32))])) (fun t k => st3.trans k) ?_
    refine own_go (B := T3.setTop (mkF m 49 (LS_IIRII p0 (0 : Int32) w_RunStatus_QUEUED (1 : Int32) (0 : Int32)) [(.int (1 : Int32))])) (fun t k => ?_) ?_
    · show Steps p.tables e below (T3.setTop (mkF m 39 (LS_IIRII p0 (0 : Int32) w_RunStatus_QUEUED (1 : Int32) (0 : Int32)) [(.int (0 : Int32))])) _
      refine XS.iload X3.here hx rfl (hb hby at_39) rfl ?_
      show Steps p.tables e below (T3.setTop (mkF m 41 (LS_IIRII p0 (0 : Int32) w_RunStatus_QUEUED (1 : Int32) (0 : Int32)) [(.int (0 : Int32)), (.int (0 : Int32))])) _
      refine XS.icmpNo X3.here hx rfl (hb hby at_41) rfl (teq (by decide : (0 : Int32) = (0 : Int32))).2 ?_
      show Steps p.tables e below (T3.setTop (mkF m 44 (LS_IIRII p0 (0 : Int32) w_RunStatus_QUEUED (1 : Int32) (0 : Int32)) [])) _
      refine XS.iconst X3.here hx rfl (hb hby at_44) ?_
      show Steps p.tables e below (T3.setTop (mkF m 45 (LS_IIRII p0 (0 : Int32) w_RunStatus_QUEUED (1 : Int32) (0 : Int32)) [(.int (1 : Int32))])) _
      refine XS.goto X3.here hx rfl (pc0 := 45) (pc' := 49) rfl (hb hby at_45) (by decide) (by decide) ?_
      exact k
    obtain ⟨fs, hr, hrun, hended, hW, hsame⟩ := X3.leave (v := some (.int (1 : Int32))) (fun h => by rw [Bd.returns] at h; cases h)
    refine ⟨_, _, ?_, hrun, hended, _, _, rfl, ?_, ⟨_, rfl⟩, hW, hsame.mono (by decide) (by decide)⟩
    · show Steps p.tables e below (T3.setTop (mkF m 49 (LS_IIRII p0 (0 : Int32) w_RunStatus_QUEUED (1 : Int32) (0 : Int32)) [(.int (1 : Int32))])) _
      exact retN X3 hx (t := .boolean) Bd.returns (by simp) (hb hby at_49) hr
    · show Q0 Z p0 w_RunStatus_QUEUED w_RunStatus_SUCCEEDED w_RunStatus_RUNNING w_RunStatus_PARTIAL w_RunStatus_CANCELED w_RunStatus_RETRYING w_RunStatus_INTERRUPTED w_RunStatus_SKIPPED w_RunStatus_FAILED w_RunStatus_TIMED_OUT h0 n0 _ T3.heap _
      rw [e3]
      exact ⟨rfl, N3⟩
  · rw [hk1]
    refine own_go (B := s₁.setTop (mkF m 9 (LS_IIuuu p0 (1 : Int32)) [(.int (1 : Int32))])) (fun t k => ?_) ?_
    · show Steps p.tables e below (s₁.setTop (mkF m 7 (LS_Iuuuu p0) [(.int (1 : Int32))])) _
      refine XS.istoreN X0.here hx rfl (hb hby at_7) rfl (l' := (LS_IIuuu p0 (1 : Int32))) rfl ?_
      show Steps p.tables e below (s₁.setTop (mkF m 8 (LS_IIuuu p0 (1 : Int32)) [])) _
      refine XS.iloadN X0.here hx rfl (hb hby at_8) rfl ?_
      exact k
    obtain ⟨_, _, ⟨T4, L4, k4, n4⟩, -, X4, ⟨Lc4, hQ4, l4, y4, z4⟩, st4⟩ := Jvm.LawKit.callS X0 hx (y := (⟨"com/example/murray_hill/murrayhill/store/RunStatusIsFinalPinLaw", "pick", "(I)Lcom/example/murray_hill/murrayhill/store/RunStatus;"⟩ : MethodName)) hown (mvT hZ (hw _ (List.mem_of_getElem? (i := 1) rfl))) (mvT hZ (hw _ (List.mem_of_getElem? (i := 2) rfl))) (mvT hZ (hw _ (List.mem_of_getElem? (i := 3) rfl))) (mvT hZ (hw _ (List.mem_of_getElem? (i := 4) rfl))) (by decide) (backOf (W := 0) (rm1_1 l Z a0 hw [] w_RunStatus_RUNNING h0 n0 Z0 S_RunStatus_RUNNING) hZ (hw _ (List.mem_of_getElem? (i := 4) rfl)) (hw _ (List.mem_of_getElem? (i := 3) rfl)) (by decide) (by decide)) (g := (mkF m 9 (LS_IIuuu p0 (1 : Int32)) [(.int (1 : Int32))])) rfl (by rw [hml]; rfl) (argsL := [(.int (1 : Int32))]) (rest := []) (lenOf pd__I_Lcom_example_murray_hill_murrayhill_store_RunStatus_ rfl) rfl (by show 2 * 0 + _ ≤ _; exact Nat.le_of_eq rfl) (hb hby at_9) (fun _ _ => ⟨rfl, e0, (by decide : 0 + 0 ≤ _), (by decide : 0 + 0 ≤ _)⟩)
    dsimp only [Pt.U, Pt.locs, Pt.cells, Pt.slots] at X4 l4 y4 z4 st4 hQ4
    subst l4 y4 z4
    obtain ⟨rfl, N4q, e4⟩ := hQ4
    have N4 := Fr.app N0 N4q
    refine own_go (B := T4.setTop (mkF m 12 (LS_IIuuu p0 (1 : Int32)) [(.ref w_RunStatus_RUNNING)])) (fun t k => st4 _ k) ?_
    refine own_go (B := T4.setTop (mkF m 36 (LS_IIRII p0 (1 : Int32) w_RunStatus_RUNNING (1 : Int32) (0 : Int32)) [(.ref w_RunStatus_RUNNING)])) (fun t k => ?_) ?_
    · show Steps p.tables e below (T4.setTop (mkF m 12 (LS_IIuuu p0 (1 : Int32)) [(.ref w_RunStatus_RUNNING)])) _
      refine XS.astoreN X4.here hx rfl (hb hby at_12) rfl rfl (l' := (LS_IIRuu p0 (1 : Int32) w_RunStatus_RUNNING)) rfl ?_
      show Steps p.tables e below (T4.setTop (mkF m 13 (LS_IIRuu p0 (1 : Int32) w_RunStatus_RUNNING) [])) _
      refine XS.iloadN X4.here hx rfl (hb hby at_13) rfl ?_
      show Steps p.tables e below (T4.setTop (mkF m 14 (LS_IIRuu p0 (1 : Int32) w_RunStatus_RUNNING) [(.int (1 : Int32))])) _
      refine XS.iconst X4.here hx rfl (hb hby at_14) ?_
      show Steps p.tables e below (T4.setTop (mkF m 15 (LS_IIRuu p0 (1 : Int32) w_RunStatus_RUNNING) [(.int (3 : Int32)), (.int (1 : Int32))])) _
      refine XS.icmpNo X4.here hx rfl (hb hby at_15) rfl (tlt (by decide : (1 : Int32) < (3 : Int32))).2.1 ?_
      show Steps p.tables e below (T4.setTop (mkF m 18 (LS_IIRuu p0 (1 : Int32) w_RunStatus_RUNNING) [])) _
      refine XS.iconst X4.here hx rfl (hb hby at_18) ?_
      show Steps p.tables e below (T4.setTop (mkF m 19 (LS_IIRuu p0 (1 : Int32) w_RunStatus_RUNNING) [(.int (1 : Int32))])) _
      refine XS.goto X4.here hx rfl (pc0 := 19) (pc' := 23) rfl (hb hby at_19) (by decide) (by decide) ?_
      show Steps p.tables e below (T4.setTop (mkF m 23 (LS_IIRuu p0 (1 : Int32) w_RunStatus_RUNNING) [(.int (1 : Int32))])) _
      refine XS.istoreN X4.here hx rfl (hb hby at_23) rfl (l' := (LS_IIRIu p0 (1 : Int32) w_RunStatus_RUNNING (1 : Int32))) rfl ?_
      show Steps p.tables e below (T4.setTop (mkF m 24 (LS_IIRIu p0 (1 : Int32) w_RunStatus_RUNNING (1 : Int32)) [])) _
      refine XS.iloadN X4.here hx rfl (hb hby at_24) rfl ?_
      show Steps p.tables e below (T4.setTop (mkF m 25 (LS_IIRIu p0 (1 : Int32) w_RunStatus_RUNNING (1 : Int32)) [(.int (1 : Int32))])) _
      refine XS.ifYes X4.here hx rfl (pc0 := 25) (pc' := 32) rfl (hb hby at_25) rfl ((if0 _ _).trans (feq (by decide : ¬ ((1 : Int32) = (0 : Int32)))).2) (by decide) (by decide) ?_
      show Steps p.tables e below (T4.setTop (mkF m 32 (LS_IIRIu p0 (1 : Int32) w_RunStatus_RUNNING (1 : Int32)) [])) _
      refine XS.iconst X4.here hx rfl (hb hby at_32) ?_
      show Steps p.tables e below (T4.setTop (mkF m 33 (LS_IIRIu p0 (1 : Int32) w_RunStatus_RUNNING (1 : Int32)) [(.int (0 : Int32))])) _
      refine XS.istore X4.here hx rfl (hb hby at_33) rfl (l' := (LS_IIRII p0 (1 : Int32) w_RunStatus_RUNNING (1 : Int32) (0 : Int32))) rfl ?_
      show Steps p.tables e below (T4.setTop (mkF m 35 (LS_IIRII p0 (1 : Int32) w_RunStatus_RUNNING (1 : Int32) (0 : Int32)) [])) _
      refine XS.aloadN X4.here hx rfl (hb hby at_35) rfl rfl ?_
      exact k
    obtain ⟨cq5, kq5, q5a, q5b, q5c⟩ := isOf hZ e4 E_RunStatus_RUNNING
    obtain ⟨_, _, ⟨T5, L5, k5, n5⟩, -, X5, ⟨Lc5, hQ5, l5, y5, z5⟩, st5⟩ := X4.virtualBack hx (y := (⟨"com/example/murray_hill/murrayhill/store/RunStatus", "isFinal", "()Z"⟩ : MethodName)) (z := (⟨"com/example/murray_hill/murrayhill/store/RunStatus", "isFinal", "()Z"⟩ : MethodName)) hown (mvT hZ (hw _ (List.mem_of_getElem? (i := 8) rfl))) (mvT hZ (hw _ (List.mem_of_getElem? (i := 9) rfl))) (notFace_of_selects (args := #[]) (mvT hZ (hw _ (List.mem_of_getElem? (i := 11) rfl)))) (mvT hZ (hw _ (List.mem_of_getElem? (i := 11) rfl))) (mvT hZ (hw _ (List.mem_of_getElem? (i := 10) rfl))) (by decide) (backOf (W := 0) (rm2_1 l Z a0 hw [] w_RunStatus_RUNNING h0 n0 Z0 E_RunStatus_RUNNING F_RunStatus_RUNNING_ordinal) hZ (hw _ (List.mem_of_getElem? (i := 12) rfl)) (hw _ (List.mem_of_getElem? (i := 6) rfl)) (by decide) (by decide)) q5a q5c (g := (mkF m 36 (LS_IIRII p0 (1 : Int32) w_RunStatus_RUNNING (1 : Int32) (0 : Int32)) [(.ref w_RunStatus_RUNNING)])) rfl (by rw [hml]; rfl) (Steps.refl _) (argsL := []) (rest := []) (lenOf pd___Z rfl) rfl (by show 2 * 0 + _ ≤ _; exact Nat.le_of_eq rfl) (hb hby at_36) (fun _ _ => ⟨rfl, e4, (by decide : 0 + 0 ≤ _), (by decide : 0 + 0 ≤ _)⟩)
    dsimp only [Pt.U, Pt.locs, Pt.cells, Pt.slots] at X5 l5 y5 z5 st5 hQ5
    subst l5 y5 z5
    obtain ⟨rfl, N5q, e5⟩ := hQ5
    have N5 := Fr.app N4 N5q
    refine own_go (B := T5.setTop (mkF m 39 (LS_IIRII p0 (1 : Int32) w_RunStatus_RUNNING (1 : Int32) (0 : Int32)) [(.int (0 : Int32))])) (fun t k => st5.trans k) ?_
    refine own_go (B := T5.setTop (mkF m 49 (LS_IIRII p0 (1 : Int32) w_RunStatus_RUNNING (1 : Int32) (0 : Int32)) [(.int (1 : Int32))])) (fun t k => ?_) ?_
    · show Steps p.tables e below (T5.setTop (mkF m 39 (LS_IIRII p0 (1 : Int32) w_RunStatus_RUNNING (1 : Int32) (0 : Int32)) [(.int (0 : Int32))])) _
      refine XS.iload X5.here hx rfl (hb hby at_39) rfl ?_
      show Steps p.tables e below (T5.setTop (mkF m 41 (LS_IIRII p0 (1 : Int32) w_RunStatus_RUNNING (1 : Int32) (0 : Int32)) [(.int (0 : Int32)), (.int (0 : Int32))])) _
      refine XS.icmpNo X5.here hx rfl (hb hby at_41) rfl (teq (by decide : (0 : Int32) = (0 : Int32))).2 ?_
      show Steps p.tables e below (T5.setTop (mkF m 44 (LS_IIRII p0 (1 : Int32) w_RunStatus_RUNNING (1 : Int32) (0 : Int32)) [])) _
      refine XS.iconst X5.here hx rfl (hb hby at_44) ?_
      show Steps p.tables e below (T5.setTop (mkF m 45 (LS_IIRII p0 (1 : Int32) w_RunStatus_RUNNING (1 : Int32) (0 : Int32)) [(.int (1 : Int32))])) _
      refine XS.goto X5.here hx rfl (pc0 := 45) (pc' := 49) rfl (hb hby at_45) (by decide) (by decide) ?_
      exact k
    obtain ⟨fs, hr, hrun, hended, hW, hsame⟩ := X5.leave (v := some (.int (1 : Int32))) (fun h => by rw [Bd.returns] at h; cases h)
    refine ⟨_, _, ?_, hrun, hended, _, _, rfl, ?_, ⟨_, rfl⟩, hW, hsame.mono (by decide) (by decide)⟩
    · show Steps p.tables e below (T5.setTop (mkF m 49 (LS_IIRII p0 (1 : Int32) w_RunStatus_RUNNING (1 : Int32) (0 : Int32)) [(.int (1 : Int32))])) _
      exact retN X5 hx (t := .boolean) Bd.returns (by simp) (hb hby at_49) hr
    · show Q0 Z p0 w_RunStatus_QUEUED w_RunStatus_SUCCEEDED w_RunStatus_RUNNING w_RunStatus_PARTIAL w_RunStatus_CANCELED w_RunStatus_RETRYING w_RunStatus_INTERRUPTED w_RunStatus_SKIPPED w_RunStatus_FAILED w_RunStatus_TIMED_OUT h0 n0 _ T5.heap _
      rw [e5]
      exact ⟨rfl, N5⟩
  · rw [hk1]
    refine own_go (B := s₁.setTop (mkF m 9 (LS_IIuuu p0 (2 : Int32)) [(.int (2 : Int32))])) (fun t k => ?_) ?_
    · show Steps p.tables e below (s₁.setTop (mkF m 7 (LS_Iuuuu p0) [(.int (2 : Int32))])) _
      refine XS.istoreN X0.here hx rfl (hb hby at_7) rfl (l' := (LS_IIuuu p0 (2 : Int32))) rfl ?_
      show Steps p.tables e below (s₁.setTop (mkF m 8 (LS_IIuuu p0 (2 : Int32)) [])) _
      refine XS.iloadN X0.here hx rfl (hb hby at_8) rfl ?_
      exact k
    obtain ⟨_, _, ⟨T6, L6, k6, n6⟩, -, X6, ⟨Lc6, hQ6, l6, y6, z6⟩, st6⟩ := Jvm.LawKit.callS X0 hx (y := (⟨"com/example/murray_hill/murrayhill/store/RunStatusIsFinalPinLaw", "pick", "(I)Lcom/example/murray_hill/murrayhill/store/RunStatus;"⟩ : MethodName)) hown (mvT hZ (hw _ (List.mem_of_getElem? (i := 1) rfl))) (mvT hZ (hw _ (List.mem_of_getElem? (i := 2) rfl))) (mvT hZ (hw _ (List.mem_of_getElem? (i := 3) rfl))) (mvT hZ (hw _ (List.mem_of_getElem? (i := 4) rfl))) (by decide) (backOf (W := 0) (rm1_2 l Z a0 hw [] w_RunStatus_RETRYING h0 n0 Z0 S_RunStatus_RETRYING) hZ (hw _ (List.mem_of_getElem? (i := 4) rfl)) (hw _ (List.mem_of_getElem? (i := 3) rfl)) (by decide) (by decide)) (g := (mkF m 9 (LS_IIuuu p0 (2 : Int32)) [(.int (2 : Int32))])) rfl (by rw [hml]; rfl) (argsL := [(.int (2 : Int32))]) (rest := []) (lenOf pd__I_Lcom_example_murray_hill_murrayhill_store_RunStatus_ rfl) rfl (by show 2 * 0 + _ ≤ _; exact Nat.le_of_eq rfl) (hb hby at_9) (fun _ _ => ⟨rfl, e0, (by decide : 0 + 0 ≤ _), (by decide : 0 + 0 ≤ _)⟩)
    dsimp only [Pt.U, Pt.locs, Pt.cells, Pt.slots] at X6 l6 y6 z6 st6 hQ6
    subst l6 y6 z6
    obtain ⟨rfl, N6q, e6⟩ := hQ6
    have N6 := Fr.app N0 N6q
    refine own_go (B := T6.setTop (mkF m 12 (LS_IIuuu p0 (2 : Int32)) [(.ref w_RunStatus_RETRYING)])) (fun t k => st6 _ k) ?_
    refine own_go (B := T6.setTop (mkF m 36 (LS_IIRII p0 (2 : Int32) w_RunStatus_RETRYING (1 : Int32) (0 : Int32)) [(.ref w_RunStatus_RETRYING)])) (fun t k => ?_) ?_
    · show Steps p.tables e below (T6.setTop (mkF m 12 (LS_IIuuu p0 (2 : Int32)) [(.ref w_RunStatus_RETRYING)])) _
      refine XS.astoreN X6.here hx rfl (hb hby at_12) rfl rfl (l' := (LS_IIRuu p0 (2 : Int32) w_RunStatus_RETRYING)) rfl ?_
      show Steps p.tables e below (T6.setTop (mkF m 13 (LS_IIRuu p0 (2 : Int32) w_RunStatus_RETRYING) [])) _
      refine XS.iloadN X6.here hx rfl (hb hby at_13) rfl ?_
      show Steps p.tables e below (T6.setTop (mkF m 14 (LS_IIRuu p0 (2 : Int32) w_RunStatus_RETRYING) [(.int (2 : Int32))])) _
      refine XS.iconst X6.here hx rfl (hb hby at_14) ?_
      show Steps p.tables e below (T6.setTop (mkF m 15 (LS_IIRuu p0 (2 : Int32) w_RunStatus_RETRYING) [(.int (3 : Int32)), (.int (2 : Int32))])) _
      refine XS.icmpNo X6.here hx rfl (hb hby at_15) rfl (tlt (by decide : (2 : Int32) < (3 : Int32))).2.1 ?_
      show Steps p.tables e below (T6.setTop (mkF m 18 (LS_IIRuu p0 (2 : Int32) w_RunStatus_RETRYING) [])) _
      refine XS.iconst X6.here hx rfl (hb hby at_18) ?_
      show Steps p.tables e below (T6.setTop (mkF m 19 (LS_IIRuu p0 (2 : Int32) w_RunStatus_RETRYING) [(.int (1 : Int32))])) _
      refine XS.goto X6.here hx rfl (pc0 := 19) (pc' := 23) rfl (hb hby at_19) (by decide) (by decide) ?_
      show Steps p.tables e below (T6.setTop (mkF m 23 (LS_IIRuu p0 (2 : Int32) w_RunStatus_RETRYING) [(.int (1 : Int32))])) _
      refine XS.istoreN X6.here hx rfl (hb hby at_23) rfl (l' := (LS_IIRIu p0 (2 : Int32) w_RunStatus_RETRYING (1 : Int32))) rfl ?_
      show Steps p.tables e below (T6.setTop (mkF m 24 (LS_IIRIu p0 (2 : Int32) w_RunStatus_RETRYING (1 : Int32)) [])) _
      refine XS.iloadN X6.here hx rfl (hb hby at_24) rfl ?_
      show Steps p.tables e below (T6.setTop (mkF m 25 (LS_IIRIu p0 (2 : Int32) w_RunStatus_RETRYING (1 : Int32)) [(.int (1 : Int32))])) _
      refine XS.ifYes X6.here hx rfl (pc0 := 25) (pc' := 32) rfl (hb hby at_25) rfl ((if0 _ _).trans (feq (by decide : ¬ ((1 : Int32) = (0 : Int32)))).2) (by decide) (by decide) ?_
      show Steps p.tables e below (T6.setTop (mkF m 32 (LS_IIRIu p0 (2 : Int32) w_RunStatus_RETRYING (1 : Int32)) [])) _
      refine XS.iconst X6.here hx rfl (hb hby at_32) ?_
      show Steps p.tables e below (T6.setTop (mkF m 33 (LS_IIRIu p0 (2 : Int32) w_RunStatus_RETRYING (1 : Int32)) [(.int (0 : Int32))])) _
      refine XS.istore X6.here hx rfl (hb hby at_33) rfl (l' := (LS_IIRII p0 (2 : Int32) w_RunStatus_RETRYING (1 : Int32) (0 : Int32))) rfl ?_
      show Steps p.tables e below (T6.setTop (mkF m 35 (LS_IIRII p0 (2 : Int32) w_RunStatus_RETRYING (1 : Int32) (0 : Int32)) [])) _
      refine XS.aloadN X6.here hx rfl (hb hby at_35) rfl rfl ?_
      exact k
    obtain ⟨cq7, kq7, q7a, q7b, q7c⟩ := isOf hZ e6 E_RunStatus_RETRYING
    obtain ⟨_, _, ⟨T7, L7, k7, n7⟩, -, X7, ⟨Lc7, hQ7, l7, y7, z7⟩, st7⟩ := X6.virtualBack hx (y := (⟨"com/example/murray_hill/murrayhill/store/RunStatus", "isFinal", "()Z"⟩ : MethodName)) (z := (⟨"com/example/murray_hill/murrayhill/store/RunStatus", "isFinal", "()Z"⟩ : MethodName)) hown (mvT hZ (hw _ (List.mem_of_getElem? (i := 8) rfl))) (mvT hZ (hw _ (List.mem_of_getElem? (i := 9) rfl))) (notFace_of_selects (args := #[]) (mvT hZ (hw _ (List.mem_of_getElem? (i := 11) rfl)))) (mvT hZ (hw _ (List.mem_of_getElem? (i := 11) rfl))) (mvT hZ (hw _ (List.mem_of_getElem? (i := 10) rfl))) (by decide) (backOf (W := 0) (rm2_2 l Z a0 hw [] w_RunStatus_RETRYING h0 n0 Z0 E_RunStatus_RETRYING F_RunStatus_RETRYING_ordinal) hZ (hw _ (List.mem_of_getElem? (i := 12) rfl)) (hw _ (List.mem_of_getElem? (i := 6) rfl)) (by decide) (by decide)) q7a q7c (g := (mkF m 36 (LS_IIRII p0 (2 : Int32) w_RunStatus_RETRYING (1 : Int32) (0 : Int32)) [(.ref w_RunStatus_RETRYING)])) rfl (by rw [hml]; rfl) (Steps.refl _) (argsL := []) (rest := []) (lenOf pd___Z rfl) rfl (by show 2 * 0 + _ ≤ _; exact Nat.le_of_eq rfl) (hb hby at_36) (fun _ _ => ⟨rfl, e6, (by decide : 0 + 0 ≤ _), (by decide : 0 + 0 ≤ _)⟩)
    dsimp only [Pt.U, Pt.locs, Pt.cells, Pt.slots] at X7 l7 y7 z7 st7 hQ7
    subst l7 y7 z7
    obtain ⟨rfl, N7q, e7⟩ := hQ7
    have N7 := Fr.app N6 N7q
    refine own_go (B := T7.setTop (mkF m 39 (LS_IIRII p0 (2 : Int32) w_RunStatus_RETRYING (1 : Int32) (0 : Int32)) [(.int (0 : Int32))])) (fun t k => st7.trans k) ?_
    refine own_go (B := T7.setTop (mkF m 49 (LS_IIRII p0 (2 : Int32) w_RunStatus_RETRYING (1 : Int32) (0 : Int32)) [(.int (1 : Int32))])) (fun t k => ?_) ?_
    · show Steps p.tables e below (T7.setTop (mkF m 39 (LS_IIRII p0 (2 : Int32) w_RunStatus_RETRYING (1 : Int32) (0 : Int32)) [(.int (0 : Int32))])) _
      refine XS.iload X7.here hx rfl (hb hby at_39) rfl ?_
      show Steps p.tables e below (T7.setTop (mkF m 41 (LS_IIRII p0 (2 : Int32) w_RunStatus_RETRYING (1 : Int32) (0 : Int32)) [(.int (0 : Int32)), (.int (0 : Int32))])) _
      refine XS.icmpNo X7.here hx rfl (hb hby at_41) rfl (teq (by decide : (0 : Int32) = (0 : Int32))).2 ?_
      show Steps p.tables e below (T7.setTop (mkF m 44 (LS_IIRII p0 (2 : Int32) w_RunStatus_RETRYING (1 : Int32) (0 : Int32)) [])) _
      refine XS.iconst X7.here hx rfl (hb hby at_44) ?_
      show Steps p.tables e below (T7.setTop (mkF m 45 (LS_IIRII p0 (2 : Int32) w_RunStatus_RETRYING (1 : Int32) (0 : Int32)) [(.int (1 : Int32))])) _
      refine XS.goto X7.here hx rfl (pc0 := 45) (pc' := 49) rfl (hb hby at_45) (by decide) (by decide) ?_
      exact k
    obtain ⟨fs, hr, hrun, hended, hW, hsame⟩ := X7.leave (v := some (.int (1 : Int32))) (fun h => by rw [Bd.returns] at h; cases h)
    refine ⟨_, _, ?_, hrun, hended, _, _, rfl, ?_, ⟨_, rfl⟩, hW, hsame.mono (by decide) (by decide)⟩
    · show Steps p.tables e below (T7.setTop (mkF m 49 (LS_IIRII p0 (2 : Int32) w_RunStatus_RETRYING (1 : Int32) (0 : Int32)) [(.int (1 : Int32))])) _
      exact retN X7 hx (t := .boolean) Bd.returns (by simp) (hb hby at_49) hr
    · show Q0 Z p0 w_RunStatus_QUEUED w_RunStatus_SUCCEEDED w_RunStatus_RUNNING w_RunStatus_PARTIAL w_RunStatus_CANCELED w_RunStatus_RETRYING w_RunStatus_INTERRUPTED w_RunStatus_SKIPPED w_RunStatus_FAILED w_RunStatus_TIMED_OUT h0 n0 _ T7.heap _
      rw [e7]
      exact ⟨rfl, N7⟩
  · rw [hk1]
    refine own_go (B := s₁.setTop (mkF m 9 (LS_IIuuu p0 (3 : Int32)) [(.int (3 : Int32))])) (fun t k => ?_) ?_
    · show Steps p.tables e below (s₁.setTop (mkF m 7 (LS_Iuuuu p0) [(.int (3 : Int32))])) _
      refine XS.istoreN X0.here hx rfl (hb hby at_7) rfl (l' := (LS_IIuuu p0 (3 : Int32))) rfl ?_
      show Steps p.tables e below (s₁.setTop (mkF m 8 (LS_IIuuu p0 (3 : Int32)) [])) _
      refine XS.iloadN X0.here hx rfl (hb hby at_8) rfl ?_
      exact k
    obtain ⟨_, _, ⟨T8, L8, k8, n8⟩, -, X8, ⟨Lc8, hQ8, l8, y8, z8⟩, st8⟩ := Jvm.LawKit.callS X0 hx (y := (⟨"com/example/murray_hill/murrayhill/store/RunStatusIsFinalPinLaw", "pick", "(I)Lcom/example/murray_hill/murrayhill/store/RunStatus;"⟩ : MethodName)) hown (mvT hZ (hw _ (List.mem_of_getElem? (i := 1) rfl))) (mvT hZ (hw _ (List.mem_of_getElem? (i := 2) rfl))) (mvT hZ (hw _ (List.mem_of_getElem? (i := 3) rfl))) (mvT hZ (hw _ (List.mem_of_getElem? (i := 4) rfl))) (by decide) (backOf (W := 0) (rm1_3 l Z a0 hw [] w_RunStatus_SUCCEEDED h0 n0 Z0 S_RunStatus_SUCCEEDED) hZ (hw _ (List.mem_of_getElem? (i := 4) rfl)) (hw _ (List.mem_of_getElem? (i := 3) rfl)) (by decide) (by decide)) (g := (mkF m 9 (LS_IIuuu p0 (3 : Int32)) [(.int (3 : Int32))])) rfl (by rw [hml]; rfl) (argsL := [(.int (3 : Int32))]) (rest := []) (lenOf pd__I_Lcom_example_murray_hill_murrayhill_store_RunStatus_ rfl) rfl (by show 2 * 0 + _ ≤ _; exact Nat.le_of_eq rfl) (hb hby at_9) (fun _ _ => ⟨rfl, e0, (by decide : 0 + 0 ≤ _), (by decide : 0 + 0 ≤ _)⟩)
    dsimp only [Pt.U, Pt.locs, Pt.cells, Pt.slots] at X8 l8 y8 z8 st8 hQ8
    subst l8 y8 z8
    obtain ⟨rfl, N8q, e8⟩ := hQ8
    have N8 := Fr.app N0 N8q
    refine own_go (B := T8.setTop (mkF m 12 (LS_IIuuu p0 (3 : Int32)) [(.ref w_RunStatus_SUCCEEDED)])) (fun t k => st8 _ k) ?_
    refine own_go (B := T8.setTop (mkF m 36 (LS_IIRII p0 (3 : Int32) w_RunStatus_SUCCEEDED (0 : Int32) (1 : Int32)) [(.ref w_RunStatus_SUCCEEDED)])) (fun t k => ?_) ?_
    · show Steps p.tables e below (T8.setTop (mkF m 12 (LS_IIuuu p0 (3 : Int32)) [(.ref w_RunStatus_SUCCEEDED)])) _
      refine XS.astoreN X8.here hx rfl (hb hby at_12) rfl rfl (l' := (LS_IIRuu p0 (3 : Int32) w_RunStatus_SUCCEEDED)) rfl ?_
      show Steps p.tables e below (T8.setTop (mkF m 13 (LS_IIRuu p0 (3 : Int32) w_RunStatus_SUCCEEDED) [])) _
      refine XS.iloadN X8.here hx rfl (hb hby at_13) rfl ?_
      show Steps p.tables e below (T8.setTop (mkF m 14 (LS_IIRuu p0 (3 : Int32) w_RunStatus_SUCCEEDED) [(.int (3 : Int32))])) _
      refine XS.iconst X8.here hx rfl (hb hby at_14) ?_
      show Steps p.tables e below (T8.setTop (mkF m 15 (LS_IIRuu p0 (3 : Int32) w_RunStatus_SUCCEEDED) [(.int (3 : Int32)), (.int (3 : Int32))])) _
      refine XS.icmpYes X8.here hx rfl (pc0 := 15) (pc' := 22) rfl (hb hby at_15) rfl (flt (by decide : ¬ ((3 : Int32) < (3 : Int32)))).2.1 (by decide) (by decide) ?_
      show Steps p.tables e below (T8.setTop (mkF m 22 (LS_IIRuu p0 (3 : Int32) w_RunStatus_SUCCEEDED) [])) _
      refine XS.iconst X8.here hx rfl (hb hby at_22) ?_
      show Steps p.tables e below (T8.setTop (mkF m 23 (LS_IIRuu p0 (3 : Int32) w_RunStatus_SUCCEEDED) [(.int (0 : Int32))])) _
      refine XS.istoreN X8.here hx rfl (hb hby at_23) rfl (l' := (LS_IIRIu p0 (3 : Int32) w_RunStatus_SUCCEEDED (0 : Int32))) rfl ?_
      show Steps p.tables e below (T8.setTop (mkF m 24 (LS_IIRIu p0 (3 : Int32) w_RunStatus_SUCCEEDED (0 : Int32)) [])) _
      refine XS.iloadN X8.here hx rfl (hb hby at_24) rfl ?_
      show Steps p.tables e below (T8.setTop (mkF m 25 (LS_IIRIu p0 (3 : Int32) w_RunStatus_SUCCEEDED (0 : Int32)) [(.int (0 : Int32))])) _
      refine XS.ifNo X8.here hx rfl (hb hby at_25) rfl ((if0 _ _).trans (teq (by decide : (0 : Int32) = (0 : Int32))).2) ?_
      show Steps p.tables e below (T8.setTop (mkF m 28 (LS_IIRIu p0 (3 : Int32) w_RunStatus_SUCCEEDED (0 : Int32)) [])) _
      refine XS.iconst X8.here hx rfl (hb hby at_28) ?_
      show Steps p.tables e below (T8.setTop (mkF m 29 (LS_IIRIu p0 (3 : Int32) w_RunStatus_SUCCEEDED (0 : Int32)) [(.int (1 : Int32))])) _
      refine XS.goto X8.here hx rfl (pc0 := 29) (pc' := 33) rfl (hb hby at_29) (by decide) (by decide) ?_
      show Steps p.tables e below (T8.setTop (mkF m 33 (LS_IIRIu p0 (3 : Int32) w_RunStatus_SUCCEEDED (0 : Int32)) [(.int (1 : Int32))])) _
      refine XS.istore X8.here hx rfl (hb hby at_33) rfl (l' := (LS_IIRII p0 (3 : Int32) w_RunStatus_SUCCEEDED (0 : Int32) (1 : Int32))) rfl ?_
      show Steps p.tables e below (T8.setTop (mkF m 35 (LS_IIRII p0 (3 : Int32) w_RunStatus_SUCCEEDED (0 : Int32) (1 : Int32)) [])) _
      refine XS.aloadN X8.here hx rfl (hb hby at_35) rfl rfl ?_
      exact k
    obtain ⟨cq9, kq9, q9a, q9b, q9c⟩ := isOf hZ e8 E_RunStatus_SUCCEEDED
    obtain ⟨_, _, ⟨T9, L9, k9, n9⟩, -, X9, ⟨Lc9, hQ9, l9, y9, z9⟩, st9⟩ := X8.virtualBack hx (y := (⟨"com/example/murray_hill/murrayhill/store/RunStatus", "isFinal", "()Z"⟩ : MethodName)) (z := (⟨"com/example/murray_hill/murrayhill/store/RunStatus", "isFinal", "()Z"⟩ : MethodName)) hown (mvT hZ (hw _ (List.mem_of_getElem? (i := 8) rfl))) (mvT hZ (hw _ (List.mem_of_getElem? (i := 9) rfl))) (notFace_of_selects (args := #[]) (mvT hZ (hw _ (List.mem_of_getElem? (i := 11) rfl)))) (mvT hZ (hw _ (List.mem_of_getElem? (i := 11) rfl))) (mvT hZ (hw _ (List.mem_of_getElem? (i := 10) rfl))) (by decide) (backOf (W := 0) (rm2_3 l Z a0 hw [] w_RunStatus_SUCCEEDED h0 n0 Z0 E_RunStatus_SUCCEEDED F_RunStatus_SUCCEEDED_ordinal) hZ (hw _ (List.mem_of_getElem? (i := 12) rfl)) (hw _ (List.mem_of_getElem? (i := 6) rfl)) (by decide) (by decide)) q9a q9c (g := (mkF m 36 (LS_IIRII p0 (3 : Int32) w_RunStatus_SUCCEEDED (0 : Int32) (1 : Int32)) [(.ref w_RunStatus_SUCCEEDED)])) rfl (by rw [hml]; rfl) (Steps.refl _) (argsL := []) (rest := []) (lenOf pd___Z rfl) rfl (by show 2 * 0 + _ ≤ _; exact Nat.le_of_eq rfl) (hb hby at_36) (fun _ _ => ⟨rfl, e8, (by decide : 0 + 0 ≤ _), (by decide : 0 + 0 ≤ _)⟩)
    dsimp only [Pt.U, Pt.locs, Pt.cells, Pt.slots] at X9 l9 y9 z9 st9 hQ9
    subst l9 y9 z9
    obtain ⟨rfl, N9q, e9⟩ := hQ9
    have N9 := Fr.app N8 N9q
    refine own_go (B := T9.setTop (mkF m 39 (LS_IIRII p0 (3 : Int32) w_RunStatus_SUCCEEDED (0 : Int32) (1 : Int32)) [(.int (1 : Int32))])) (fun t k => st9.trans k) ?_
    refine own_go (B := T9.setTop (mkF m 49 (LS_IIRII p0 (3 : Int32) w_RunStatus_SUCCEEDED (0 : Int32) (1 : Int32)) [(.int (1 : Int32))])) (fun t k => ?_) ?_
    · show Steps p.tables e below (T9.setTop (mkF m 39 (LS_IIRII p0 (3 : Int32) w_RunStatus_SUCCEEDED (0 : Int32) (1 : Int32)) [(.int (1 : Int32))])) _
      refine XS.iload X9.here hx rfl (hb hby at_39) rfl ?_
      show Steps p.tables e below (T9.setTop (mkF m 41 (LS_IIRII p0 (3 : Int32) w_RunStatus_SUCCEEDED (0 : Int32) (1 : Int32)) [(.int (1 : Int32)), (.int (1 : Int32))])) _
      refine XS.icmpNo X9.here hx rfl (hb hby at_41) rfl (teq (by decide : (1 : Int32) = (1 : Int32))).2 ?_
      show Steps p.tables e below (T9.setTop (mkF m 44 (LS_IIRII p0 (3 : Int32) w_RunStatus_SUCCEEDED (0 : Int32) (1 : Int32)) [])) _
      refine XS.iconst X9.here hx rfl (hb hby at_44) ?_
      show Steps p.tables e below (T9.setTop (mkF m 45 (LS_IIRII p0 (3 : Int32) w_RunStatus_SUCCEEDED (0 : Int32) (1 : Int32)) [(.int (1 : Int32))])) _
      refine XS.goto X9.here hx rfl (pc0 := 45) (pc' := 49) rfl (hb hby at_45) (by decide) (by decide) ?_
      exact k
    obtain ⟨fs, hr, hrun, hended, hW, hsame⟩ := X9.leave (v := some (.int (1 : Int32))) (fun h => by rw [Bd.returns] at h; cases h)
    refine ⟨_, _, ?_, hrun, hended, _, _, rfl, ?_, ⟨_, rfl⟩, hW, hsame.mono (by decide) (by decide)⟩
    · show Steps p.tables e below (T9.setTop (mkF m 49 (LS_IIRII p0 (3 : Int32) w_RunStatus_SUCCEEDED (0 : Int32) (1 : Int32)) [(.int (1 : Int32))])) _
      exact retN X9 hx (t := .boolean) Bd.returns (by simp) (hb hby at_49) hr
    · show Q0 Z p0 w_RunStatus_QUEUED w_RunStatus_SUCCEEDED w_RunStatus_RUNNING w_RunStatus_PARTIAL w_RunStatus_CANCELED w_RunStatus_RETRYING w_RunStatus_INTERRUPTED w_RunStatus_SKIPPED w_RunStatus_FAILED w_RunStatus_TIMED_OUT h0 n0 _ T9.heap _
      rw [e9]
      exact ⟨rfl, N9⟩
  · rw [hk1]
    refine own_go (B := s₁.setTop (mkF m 9 (LS_IIuuu p0 (4 : Int32)) [(.int (4 : Int32))])) (fun t k => ?_) ?_
    · show Steps p.tables e below (s₁.setTop (mkF m 7 (LS_Iuuuu p0) [(.int (4 : Int32))])) _
      refine XS.istoreN X0.here hx rfl (hb hby at_7) rfl (l' := (LS_IIuuu p0 (4 : Int32))) rfl ?_
      show Steps p.tables e below (s₁.setTop (mkF m 8 (LS_IIuuu p0 (4 : Int32)) [])) _
      refine XS.iloadN X0.here hx rfl (hb hby at_8) rfl ?_
      exact k
    obtain ⟨_, _, ⟨T10, L10, k10, n10⟩, -, X10, ⟨Lc10, hQ10, l10, y10, z10⟩, st10⟩ := Jvm.LawKit.callS X0 hx (y := (⟨"com/example/murray_hill/murrayhill/store/RunStatusIsFinalPinLaw", "pick", "(I)Lcom/example/murray_hill/murrayhill/store/RunStatus;"⟩ : MethodName)) hown (mvT hZ (hw _ (List.mem_of_getElem? (i := 1) rfl))) (mvT hZ (hw _ (List.mem_of_getElem? (i := 2) rfl))) (mvT hZ (hw _ (List.mem_of_getElem? (i := 3) rfl))) (mvT hZ (hw _ (List.mem_of_getElem? (i := 4) rfl))) (by decide) (backOf (W := 0) (rm1_4 l Z a0 hw [] w_RunStatus_PARTIAL h0 n0 Z0 S_RunStatus_PARTIAL) hZ (hw _ (List.mem_of_getElem? (i := 4) rfl)) (hw _ (List.mem_of_getElem? (i := 3) rfl)) (by decide) (by decide)) (g := (mkF m 9 (LS_IIuuu p0 (4 : Int32)) [(.int (4 : Int32))])) rfl (by rw [hml]; rfl) (argsL := [(.int (4 : Int32))]) (rest := []) (lenOf pd__I_Lcom_example_murray_hill_murrayhill_store_RunStatus_ rfl) rfl (by show 2 * 0 + _ ≤ _; exact Nat.le_of_eq rfl) (hb hby at_9) (fun _ _ => ⟨rfl, e0, (by decide : 0 + 0 ≤ _), (by decide : 0 + 0 ≤ _)⟩)
    dsimp only [Pt.U, Pt.locs, Pt.cells, Pt.slots] at X10 l10 y10 z10 st10 hQ10
    subst l10 y10 z10
    obtain ⟨rfl, N10q, e10⟩ := hQ10
    have N10 := Fr.app N0 N10q
    refine own_go (B := T10.setTop (mkF m 12 (LS_IIuuu p0 (4 : Int32)) [(.ref w_RunStatus_PARTIAL)])) (fun t k => st10 _ k) ?_
    refine own_go (B := T10.setTop (mkF m 36 (LS_IIRII p0 (4 : Int32) w_RunStatus_PARTIAL (0 : Int32) (1 : Int32)) [(.ref w_RunStatus_PARTIAL)])) (fun t k => ?_) ?_
    · show Steps p.tables e below (T10.setTop (mkF m 12 (LS_IIuuu p0 (4 : Int32)) [(.ref w_RunStatus_PARTIAL)])) _
      refine XS.astoreN X10.here hx rfl (hb hby at_12) rfl rfl (l' := (LS_IIRuu p0 (4 : Int32) w_RunStatus_PARTIAL)) rfl ?_
      show Steps p.tables e below (T10.setTop (mkF m 13 (LS_IIRuu p0 (4 : Int32) w_RunStatus_PARTIAL) [])) _
      refine XS.iloadN X10.here hx rfl (hb hby at_13) rfl ?_
      show Steps p.tables e below (T10.setTop (mkF m 14 (LS_IIRuu p0 (4 : Int32) w_RunStatus_PARTIAL) [(.int (4 : Int32))])) _
      refine XS.iconst X10.here hx rfl (hb hby at_14) ?_
      show Steps p.tables e below (T10.setTop (mkF m 15 (LS_IIRuu p0 (4 : Int32) w_RunStatus_PARTIAL) [(.int (3 : Int32)), (.int (4 : Int32))])) _
      refine XS.icmpYes X10.here hx rfl (pc0 := 15) (pc' := 22) rfl (hb hby at_15) rfl (flt (by decide : ¬ ((4 : Int32) < (3 : Int32)))).2.1 (by decide) (by decide) ?_
      show Steps p.tables e below (T10.setTop (mkF m 22 (LS_IIRuu p0 (4 : Int32) w_RunStatus_PARTIAL) [])) _
      refine XS.iconst X10.here hx rfl (hb hby at_22) ?_
      show Steps p.tables e below (T10.setTop (mkF m 23 (LS_IIRuu p0 (4 : Int32) w_RunStatus_PARTIAL) [(.int (0 : Int32))])) _
      refine XS.istoreN X10.here hx rfl (hb hby at_23) rfl (l' := (LS_IIRIu p0 (4 : Int32) w_RunStatus_PARTIAL (0 : Int32))) rfl ?_
      show Steps p.tables e below (T10.setTop (mkF m 24 (LS_IIRIu p0 (4 : Int32) w_RunStatus_PARTIAL (0 : Int32)) [])) _
      refine XS.iloadN X10.here hx rfl (hb hby at_24) rfl ?_
      show Steps p.tables e below (T10.setTop (mkF m 25 (LS_IIRIu p0 (4 : Int32) w_RunStatus_PARTIAL (0 : Int32)) [(.int (0 : Int32))])) _
      refine XS.ifNo X10.here hx rfl (hb hby at_25) rfl ((if0 _ _).trans (teq (by decide : (0 : Int32) = (0 : Int32))).2) ?_
      show Steps p.tables e below (T10.setTop (mkF m 28 (LS_IIRIu p0 (4 : Int32) w_RunStatus_PARTIAL (0 : Int32)) [])) _
      refine XS.iconst X10.here hx rfl (hb hby at_28) ?_
      show Steps p.tables e below (T10.setTop (mkF m 29 (LS_IIRIu p0 (4 : Int32) w_RunStatus_PARTIAL (0 : Int32)) [(.int (1 : Int32))])) _
      refine XS.goto X10.here hx rfl (pc0 := 29) (pc' := 33) rfl (hb hby at_29) (by decide) (by decide) ?_
      show Steps p.tables e below (T10.setTop (mkF m 33 (LS_IIRIu p0 (4 : Int32) w_RunStatus_PARTIAL (0 : Int32)) [(.int (1 : Int32))])) _
      refine XS.istore X10.here hx rfl (hb hby at_33) rfl (l' := (LS_IIRII p0 (4 : Int32) w_RunStatus_PARTIAL (0 : Int32) (1 : Int32))) rfl ?_
      show Steps p.tables e below (T10.setTop (mkF m 35 (LS_IIRII p0 (4 : Int32) w_RunStatus_PARTIAL (0 : Int32) (1 : Int32)) [])) _
      refine XS.aloadN X10.here hx rfl (hb hby at_35) rfl rfl ?_
      exact k
    obtain ⟨cq11, kq11, q11a, q11b, q11c⟩ := isOf hZ e10 E_RunStatus_PARTIAL
    obtain ⟨_, _, ⟨T11, L11, k11, n11⟩, -, X11, ⟨Lc11, hQ11, l11, y11, z11⟩, st11⟩ := X10.virtualBack hx (y := (⟨"com/example/murray_hill/murrayhill/store/RunStatus", "isFinal", "()Z"⟩ : MethodName)) (z := (⟨"com/example/murray_hill/murrayhill/store/RunStatus", "isFinal", "()Z"⟩ : MethodName)) hown (mvT hZ (hw _ (List.mem_of_getElem? (i := 8) rfl))) (mvT hZ (hw _ (List.mem_of_getElem? (i := 9) rfl))) (notFace_of_selects (args := #[]) (mvT hZ (hw _ (List.mem_of_getElem? (i := 11) rfl)))) (mvT hZ (hw _ (List.mem_of_getElem? (i := 11) rfl))) (mvT hZ (hw _ (List.mem_of_getElem? (i := 10) rfl))) (by decide) (backOf (W := 0) (rm2_4 l Z a0 hw [] w_RunStatus_PARTIAL h0 n0 Z0 E_RunStatus_PARTIAL F_RunStatus_PARTIAL_ordinal) hZ (hw _ (List.mem_of_getElem? (i := 12) rfl)) (hw _ (List.mem_of_getElem? (i := 6) rfl)) (by decide) (by decide)) q11a q11c (g := (mkF m 36 (LS_IIRII p0 (4 : Int32) w_RunStatus_PARTIAL (0 : Int32) (1 : Int32)) [(.ref w_RunStatus_PARTIAL)])) rfl (by rw [hml]; rfl) (Steps.refl _) (argsL := []) (rest := []) (lenOf pd___Z rfl) rfl (by show 2 * 0 + _ ≤ _; exact Nat.le_of_eq rfl) (hb hby at_36) (fun _ _ => ⟨rfl, e10, (by decide : 0 + 0 ≤ _), (by decide : 0 + 0 ≤ _)⟩)
    dsimp only [Pt.U, Pt.locs, Pt.cells, Pt.slots] at X11 l11 y11 z11 st11 hQ11
    subst l11 y11 z11
    obtain ⟨rfl, N11q, e11⟩ := hQ11
    have N11 := Fr.app N10 N11q
    refine own_go (B := T11.setTop (mkF m 39 (LS_IIRII p0 (4 : Int32) w_RunStatus_PARTIAL (0 : Int32) (1 : Int32)) [(.int (1 : Int32))])) (fun t k => st11.trans k) ?_
    refine own_go (B := T11.setTop (mkF m 49 (LS_IIRII p0 (4 : Int32) w_RunStatus_PARTIAL (0 : Int32) (1 : Int32)) [(.int (1 : Int32))])) (fun t k => ?_) ?_
    · show Steps p.tables e below (T11.setTop (mkF m 39 (LS_IIRII p0 (4 : Int32) w_RunStatus_PARTIAL (0 : Int32) (1 : Int32)) [(.int (1 : Int32))])) _
      refine XS.iload X11.here hx rfl (hb hby at_39) rfl ?_
      show Steps p.tables e below (T11.setTop (mkF m 41 (LS_IIRII p0 (4 : Int32) w_RunStatus_PARTIAL (0 : Int32) (1 : Int32)) [(.int (1 : Int32)), (.int (1 : Int32))])) _
      refine XS.icmpNo X11.here hx rfl (hb hby at_41) rfl (teq (by decide : (1 : Int32) = (1 : Int32))).2 ?_
      show Steps p.tables e below (T11.setTop (mkF m 44 (LS_IIRII p0 (4 : Int32) w_RunStatus_PARTIAL (0 : Int32) (1 : Int32)) [])) _
      refine XS.iconst X11.here hx rfl (hb hby at_44) ?_
      show Steps p.tables e below (T11.setTop (mkF m 45 (LS_IIRII p0 (4 : Int32) w_RunStatus_PARTIAL (0 : Int32) (1 : Int32)) [(.int (1 : Int32))])) _
      refine XS.goto X11.here hx rfl (pc0 := 45) (pc' := 49) rfl (hb hby at_45) (by decide) (by decide) ?_
      exact k
    obtain ⟨fs, hr, hrun, hended, hW, hsame⟩ := X11.leave (v := some (.int (1 : Int32))) (fun h => by rw [Bd.returns] at h; cases h)
    refine ⟨_, _, ?_, hrun, hended, _, _, rfl, ?_, ⟨_, rfl⟩, hW, hsame.mono (by decide) (by decide)⟩
    · show Steps p.tables e below (T11.setTop (mkF m 49 (LS_IIRII p0 (4 : Int32) w_RunStatus_PARTIAL (0 : Int32) (1 : Int32)) [(.int (1 : Int32))])) _
      exact retN X11 hx (t := .boolean) Bd.returns (by simp) (hb hby at_49) hr
    · show Q0 Z p0 w_RunStatus_QUEUED w_RunStatus_SUCCEEDED w_RunStatus_RUNNING w_RunStatus_PARTIAL w_RunStatus_CANCELED w_RunStatus_RETRYING w_RunStatus_INTERRUPTED w_RunStatus_SKIPPED w_RunStatus_FAILED w_RunStatus_TIMED_OUT h0 n0 _ T11.heap _
      rw [e11]
      exact ⟨rfl, N11⟩
  · rw [hk1]
    refine own_go (B := s₁.setTop (mkF m 9 (LS_IIuuu p0 (5 : Int32)) [(.int (5 : Int32))])) (fun t k => ?_) ?_
    · show Steps p.tables e below (s₁.setTop (mkF m 7 (LS_Iuuuu p0) [(.int (5 : Int32))])) _
      refine XS.istoreN X0.here hx rfl (hb hby at_7) rfl (l' := (LS_IIuuu p0 (5 : Int32))) rfl ?_
      show Steps p.tables e below (s₁.setTop (mkF m 8 (LS_IIuuu p0 (5 : Int32)) [])) _
      refine XS.iloadN X0.here hx rfl (hb hby at_8) rfl ?_
      exact k
    obtain ⟨_, _, ⟨T12, L12, k12, n12⟩, -, X12, ⟨Lc12, hQ12, l12, y12, z12⟩, st12⟩ := Jvm.LawKit.callS X0 hx (y := (⟨"com/example/murray_hill/murrayhill/store/RunStatusIsFinalPinLaw", "pick", "(I)Lcom/example/murray_hill/murrayhill/store/RunStatus;"⟩ : MethodName)) hown (mvT hZ (hw _ (List.mem_of_getElem? (i := 1) rfl))) (mvT hZ (hw _ (List.mem_of_getElem? (i := 2) rfl))) (mvT hZ (hw _ (List.mem_of_getElem? (i := 3) rfl))) (mvT hZ (hw _ (List.mem_of_getElem? (i := 4) rfl))) (by decide) (backOf (W := 0) (rm1_5 l Z a0 hw [] w_RunStatus_FAILED h0 n0 Z0 S_RunStatus_FAILED) hZ (hw _ (List.mem_of_getElem? (i := 4) rfl)) (hw _ (List.mem_of_getElem? (i := 3) rfl)) (by decide) (by decide)) (g := (mkF m 9 (LS_IIuuu p0 (5 : Int32)) [(.int (5 : Int32))])) rfl (by rw [hml]; rfl) (argsL := [(.int (5 : Int32))]) (rest := []) (lenOf pd__I_Lcom_example_murray_hill_murrayhill_store_RunStatus_ rfl) rfl (by show 2 * 0 + _ ≤ _; exact Nat.le_of_eq rfl) (hb hby at_9) (fun _ _ => ⟨rfl, e0, (by decide : 0 + 0 ≤ _), (by decide : 0 + 0 ≤ _)⟩)
    dsimp only [Pt.U, Pt.locs, Pt.cells, Pt.slots] at X12 l12 y12 z12 st12 hQ12
    subst l12 y12 z12
    obtain ⟨rfl, N12q, e12⟩ := hQ12
    have N12 := Fr.app N0 N12q
    refine own_go (B := T12.setTop (mkF m 12 (LS_IIuuu p0 (5 : Int32)) [(.ref w_RunStatus_FAILED)])) (fun t k => st12 _ k) ?_
    refine own_go (B := T12.setTop (mkF m 36 (LS_IIRII p0 (5 : Int32) w_RunStatus_FAILED (0 : Int32) (1 : Int32)) [(.ref w_RunStatus_FAILED)])) (fun t k => ?_) ?_
    · show Steps p.tables e below (T12.setTop (mkF m 12 (LS_IIuuu p0 (5 : Int32)) [(.ref w_RunStatus_FAILED)])) _
      refine XS.astoreN X12.here hx rfl (hb hby at_12) rfl rfl (l' := (LS_IIRuu p0 (5 : Int32) w_RunStatus_FAILED)) rfl ?_
      show Steps p.tables e below (T12.setTop (mkF m 13 (LS_IIRuu p0 (5 : Int32) w_RunStatus_FAILED) [])) _
      refine XS.iloadN X12.here hx rfl (hb hby at_13) rfl ?_
      show Steps p.tables e below (T12.setTop (mkF m 14 (LS_IIRuu p0 (5 : Int32) w_RunStatus_FAILED) [(.int (5 : Int32))])) _
      refine XS.iconst X12.here hx rfl (hb hby at_14) ?_
      show Steps p.tables e below (T12.setTop (mkF m 15 (LS_IIRuu p0 (5 : Int32) w_RunStatus_FAILED) [(.int (3 : Int32)), (.int (5 : Int32))])) _
      refine XS.icmpYes X12.here hx rfl (pc0 := 15) (pc' := 22) rfl (hb hby at_15) rfl (flt (by decide : ¬ ((5 : Int32) < (3 : Int32)))).2.1 (by decide) (by decide) ?_
      show Steps p.tables e below (T12.setTop (mkF m 22 (LS_IIRuu p0 (5 : Int32) w_RunStatus_FAILED) [])) _
      refine XS.iconst X12.here hx rfl (hb hby at_22) ?_
      show Steps p.tables e below (T12.setTop (mkF m 23 (LS_IIRuu p0 (5 : Int32) w_RunStatus_FAILED) [(.int (0 : Int32))])) _
      refine XS.istoreN X12.here hx rfl (hb hby at_23) rfl (l' := (LS_IIRIu p0 (5 : Int32) w_RunStatus_FAILED (0 : Int32))) rfl ?_
      show Steps p.tables e below (T12.setTop (mkF m 24 (LS_IIRIu p0 (5 : Int32) w_RunStatus_FAILED (0 : Int32)) [])) _
      refine XS.iloadN X12.here hx rfl (hb hby at_24) rfl ?_
      show Steps p.tables e below (T12.setTop (mkF m 25 (LS_IIRIu p0 (5 : Int32) w_RunStatus_FAILED (0 : Int32)) [(.int (0 : Int32))])) _
      refine XS.ifNo X12.here hx rfl (hb hby at_25) rfl ((if0 _ _).trans (teq (by decide : (0 : Int32) = (0 : Int32))).2) ?_
      show Steps p.tables e below (T12.setTop (mkF m 28 (LS_IIRIu p0 (5 : Int32) w_RunStatus_FAILED (0 : Int32)) [])) _
      refine XS.iconst X12.here hx rfl (hb hby at_28) ?_
      show Steps p.tables e below (T12.setTop (mkF m 29 (LS_IIRIu p0 (5 : Int32) w_RunStatus_FAILED (0 : Int32)) [(.int (1 : Int32))])) _
      refine XS.goto X12.here hx rfl (pc0 := 29) (pc' := 33) rfl (hb hby at_29) (by decide) (by decide) ?_
      show Steps p.tables e below (T12.setTop (mkF m 33 (LS_IIRIu p0 (5 : Int32) w_RunStatus_FAILED (0 : Int32)) [(.int (1 : Int32))])) _
      refine XS.istore X12.here hx rfl (hb hby at_33) rfl (l' := (LS_IIRII p0 (5 : Int32) w_RunStatus_FAILED (0 : Int32) (1 : Int32))) rfl ?_
      show Steps p.tables e below (T12.setTop (mkF m 35 (LS_IIRII p0 (5 : Int32) w_RunStatus_FAILED (0 : Int32) (1 : Int32)) [])) _
      refine XS.aloadN X12.here hx rfl (hb hby at_35) rfl rfl ?_
      exact k
    obtain ⟨cq13, kq13, q13a, q13b, q13c⟩ := isOf hZ e12 E_RunStatus_FAILED
    obtain ⟨_, _, ⟨T13, L13, k13, n13⟩, -, X13, ⟨Lc13, hQ13, l13, y13, z13⟩, st13⟩ := X12.virtualBack hx (y := (⟨"com/example/murray_hill/murrayhill/store/RunStatus", "isFinal", "()Z"⟩ : MethodName)) (z := (⟨"com/example/murray_hill/murrayhill/store/RunStatus", "isFinal", "()Z"⟩ : MethodName)) hown (mvT hZ (hw _ (List.mem_of_getElem? (i := 8) rfl))) (mvT hZ (hw _ (List.mem_of_getElem? (i := 9) rfl))) (notFace_of_selects (args := #[]) (mvT hZ (hw _ (List.mem_of_getElem? (i := 11) rfl)))) (mvT hZ (hw _ (List.mem_of_getElem? (i := 11) rfl))) (mvT hZ (hw _ (List.mem_of_getElem? (i := 10) rfl))) (by decide) (backOf (W := 0) (rm2_5 l Z a0 hw [] w_RunStatus_FAILED h0 n0 Z0 E_RunStatus_FAILED F_RunStatus_FAILED_ordinal) hZ (hw _ (List.mem_of_getElem? (i := 12) rfl)) (hw _ (List.mem_of_getElem? (i := 6) rfl)) (by decide) (by decide)) q13a q13c (g := (mkF m 36 (LS_IIRII p0 (5 : Int32) w_RunStatus_FAILED (0 : Int32) (1 : Int32)) [(.ref w_RunStatus_FAILED)])) rfl (by rw [hml]; rfl) (Steps.refl _) (argsL := []) (rest := []) (lenOf pd___Z rfl) rfl (by show 2 * 0 + _ ≤ _; exact Nat.le_of_eq rfl) (hb hby at_36) (fun _ _ => ⟨rfl, e12, (by decide : 0 + 0 ≤ _), (by decide : 0 + 0 ≤ _)⟩)
    dsimp only [Pt.U, Pt.locs, Pt.cells, Pt.slots] at X13 l13 y13 z13 st13 hQ13
    subst l13 y13 z13
    obtain ⟨rfl, N13q, e13⟩ := hQ13
    have N13 := Fr.app N12 N13q
    refine own_go (B := T13.setTop (mkF m 39 (LS_IIRII p0 (5 : Int32) w_RunStatus_FAILED (0 : Int32) (1 : Int32)) [(.int (1 : Int32))])) (fun t k => st13.trans k) ?_
    refine own_go (B := T13.setTop (mkF m 49 (LS_IIRII p0 (5 : Int32) w_RunStatus_FAILED (0 : Int32) (1 : Int32)) [(.int (1 : Int32))])) (fun t k => ?_) ?_
    · show Steps p.tables e below (T13.setTop (mkF m 39 (LS_IIRII p0 (5 : Int32) w_RunStatus_FAILED (0 : Int32) (1 : Int32)) [(.int (1 : Int32))])) _
      refine XS.iload X13.here hx rfl (hb hby at_39) rfl ?_
      show Steps p.tables e below (T13.setTop (mkF m 41 (LS_IIRII p0 (5 : Int32) w_RunStatus_FAILED (0 : Int32) (1 : Int32)) [(.int (1 : Int32)), (.int (1 : Int32))])) _
      refine XS.icmpNo X13.here hx rfl (hb hby at_41) rfl (teq (by decide : (1 : Int32) = (1 : Int32))).2 ?_
      show Steps p.tables e below (T13.setTop (mkF m 44 (LS_IIRII p0 (5 : Int32) w_RunStatus_FAILED (0 : Int32) (1 : Int32)) [])) _
      refine XS.iconst X13.here hx rfl (hb hby at_44) ?_
      show Steps p.tables e below (T13.setTop (mkF m 45 (LS_IIRII p0 (5 : Int32) w_RunStatus_FAILED (0 : Int32) (1 : Int32)) [(.int (1 : Int32))])) _
      refine XS.goto X13.here hx rfl (pc0 := 45) (pc' := 49) rfl (hb hby at_45) (by decide) (by decide) ?_
      exact k
    obtain ⟨fs, hr, hrun, hended, hW, hsame⟩ := X13.leave (v := some (.int (1 : Int32))) (fun h => by rw [Bd.returns] at h; cases h)
    refine ⟨_, _, ?_, hrun, hended, _, _, rfl, ?_, ⟨_, rfl⟩, hW, hsame.mono (by decide) (by decide)⟩
    · show Steps p.tables e below (T13.setTop (mkF m 49 (LS_IIRII p0 (5 : Int32) w_RunStatus_FAILED (0 : Int32) (1 : Int32)) [(.int (1 : Int32))])) _
      exact retN X13 hx (t := .boolean) Bd.returns (by simp) (hb hby at_49) hr
    · show Q0 Z p0 w_RunStatus_QUEUED w_RunStatus_SUCCEEDED w_RunStatus_RUNNING w_RunStatus_PARTIAL w_RunStatus_CANCELED w_RunStatus_RETRYING w_RunStatus_INTERRUPTED w_RunStatus_SKIPPED w_RunStatus_FAILED w_RunStatus_TIMED_OUT h0 n0 _ T13.heap _
      rw [e13]
      exact ⟨rfl, N13⟩
  · rw [hk1]
    refine own_go (B := s₁.setTop (mkF m 9 (LS_IIuuu p0 (6 : Int32)) [(.int (6 : Int32))])) (fun t k => ?_) ?_
    · show Steps p.tables e below (s₁.setTop (mkF m 7 (LS_Iuuuu p0) [(.int (6 : Int32))])) _
      refine XS.istoreN X0.here hx rfl (hb hby at_7) rfl (l' := (LS_IIuuu p0 (6 : Int32))) rfl ?_
      show Steps p.tables e below (s₁.setTop (mkF m 8 (LS_IIuuu p0 (6 : Int32)) [])) _
      refine XS.iloadN X0.here hx rfl (hb hby at_8) rfl ?_
      exact k
    obtain ⟨_, _, ⟨T14, L14, k14, n14⟩, -, X14, ⟨Lc14, hQ14, l14, y14, z14⟩, st14⟩ := Jvm.LawKit.callS X0 hx (y := (⟨"com/example/murray_hill/murrayhill/store/RunStatusIsFinalPinLaw", "pick", "(I)Lcom/example/murray_hill/murrayhill/store/RunStatus;"⟩ : MethodName)) hown (mvT hZ (hw _ (List.mem_of_getElem? (i := 1) rfl))) (mvT hZ (hw _ (List.mem_of_getElem? (i := 2) rfl))) (mvT hZ (hw _ (List.mem_of_getElem? (i := 3) rfl))) (mvT hZ (hw _ (List.mem_of_getElem? (i := 4) rfl))) (by decide) (backOf (W := 0) (rm1_6 l Z a0 hw [] w_RunStatus_TIMED_OUT h0 n0 Z0 S_RunStatus_TIMED_OUT) hZ (hw _ (List.mem_of_getElem? (i := 4) rfl)) (hw _ (List.mem_of_getElem? (i := 3) rfl)) (by decide) (by decide)) (g := (mkF m 9 (LS_IIuuu p0 (6 : Int32)) [(.int (6 : Int32))])) rfl (by rw [hml]; rfl) (argsL := [(.int (6 : Int32))]) (rest := []) (lenOf pd__I_Lcom_example_murray_hill_murrayhill_store_RunStatus_ rfl) rfl (by show 2 * 0 + _ ≤ _; exact Nat.le_of_eq rfl) (hb hby at_9) (fun _ _ => ⟨rfl, e0, (by decide : 0 + 0 ≤ _), (by decide : 0 + 0 ≤ _)⟩)
    dsimp only [Pt.U, Pt.locs, Pt.cells, Pt.slots] at X14 l14 y14 z14 st14 hQ14
    subst l14 y14 z14
    obtain ⟨rfl, N14q, e14⟩ := hQ14
    have N14 := Fr.app N0 N14q
    refine own_go (B := T14.setTop (mkF m 12 (LS_IIuuu p0 (6 : Int32)) [(.ref w_RunStatus_TIMED_OUT)])) (fun t k => st14 _ k) ?_
    refine own_go (B := T14.setTop (mkF m 36 (LS_IIRII p0 (6 : Int32) w_RunStatus_TIMED_OUT (0 : Int32) (1 : Int32)) [(.ref w_RunStatus_TIMED_OUT)])) (fun t k => ?_) ?_
    · show Steps p.tables e below (T14.setTop (mkF m 12 (LS_IIuuu p0 (6 : Int32)) [(.ref w_RunStatus_TIMED_OUT)])) _
      refine XS.astoreN X14.here hx rfl (hb hby at_12) rfl rfl (l' := (LS_IIRuu p0 (6 : Int32) w_RunStatus_TIMED_OUT)) rfl ?_
      show Steps p.tables e below (T14.setTop (mkF m 13 (LS_IIRuu p0 (6 : Int32) w_RunStatus_TIMED_OUT) [])) _
      refine XS.iloadN X14.here hx rfl (hb hby at_13) rfl ?_
      show Steps p.tables e below (T14.setTop (mkF m 14 (LS_IIRuu p0 (6 : Int32) w_RunStatus_TIMED_OUT) [(.int (6 : Int32))])) _
      refine XS.iconst X14.here hx rfl (hb hby at_14) ?_
      show Steps p.tables e below (T14.setTop (mkF m 15 (LS_IIRuu p0 (6 : Int32) w_RunStatus_TIMED_OUT) [(.int (3 : Int32)), (.int (6 : Int32))])) _
      refine XS.icmpYes X14.here hx rfl (pc0 := 15) (pc' := 22) rfl (hb hby at_15) rfl (flt (by decide : ¬ ((6 : Int32) < (3 : Int32)))).2.1 (by decide) (by decide) ?_
      show Steps p.tables e below (T14.setTop (mkF m 22 (LS_IIRuu p0 (6 : Int32) w_RunStatus_TIMED_OUT) [])) _
      refine XS.iconst X14.here hx rfl (hb hby at_22) ?_
      show Steps p.tables e below (T14.setTop (mkF m 23 (LS_IIRuu p0 (6 : Int32) w_RunStatus_TIMED_OUT) [(.int (0 : Int32))])) _
      refine XS.istoreN X14.here hx rfl (hb hby at_23) rfl (l' := (LS_IIRIu p0 (6 : Int32) w_RunStatus_TIMED_OUT (0 : Int32))) rfl ?_
      show Steps p.tables e below (T14.setTop (mkF m 24 (LS_IIRIu p0 (6 : Int32) w_RunStatus_TIMED_OUT (0 : Int32)) [])) _
      refine XS.iloadN X14.here hx rfl (hb hby at_24) rfl ?_
      show Steps p.tables e below (T14.setTop (mkF m 25 (LS_IIRIu p0 (6 : Int32) w_RunStatus_TIMED_OUT (0 : Int32)) [(.int (0 : Int32))])) _
      refine XS.ifNo X14.here hx rfl (hb hby at_25) rfl ((if0 _ _).trans (teq (by decide : (0 : Int32) = (0 : Int32))).2) ?_
      show Steps p.tables e below (T14.setTop (mkF m 28 (LS_IIRIu p0 (6 : Int32) w_RunStatus_TIMED_OUT (0 : Int32)) [])) _
      refine XS.iconst X14.here hx rfl (hb hby at_28) ?_
      show Steps p.tables e below (T14.setTop (mkF m 29 (LS_IIRIu p0 (6 : Int32) w_RunStatus_TIMED_OUT (0 : Int32)) [(.int (1 : Int32))])) _
      refine XS.goto X14.here hx rfl (pc0 := 29) (pc' := 33) rfl (hb hby at_29) (by decide) (by decide) ?_
      show Steps p.tables e below (T14.setTop (mkF m 33 (LS_IIRIu p0 (6 : Int32) w_RunStatus_TIMED_OUT (0 : Int32)) [(.int (1 : Int32))])) _
      refine XS.istore X14.here hx rfl (hb hby at_33) rfl (l' := (LS_IIRII p0 (6 : Int32) w_RunStatus_TIMED_OUT (0 : Int32) (1 : Int32))) rfl ?_
      show Steps p.tables e below (T14.setTop (mkF m 35 (LS_IIRII p0 (6 : Int32) w_RunStatus_TIMED_OUT (0 : Int32) (1 : Int32)) [])) _
      refine XS.aloadN X14.here hx rfl (hb hby at_35) rfl rfl ?_
      exact k
    obtain ⟨cq15, kq15, q15a, q15b, q15c⟩ := isOf hZ e14 E_RunStatus_TIMED_OUT
    obtain ⟨_, _, ⟨T15, L15, k15, n15⟩, -, X15, ⟨Lc15, hQ15, l15, y15, z15⟩, st15⟩ := X14.virtualBack hx (y := (⟨"com/example/murray_hill/murrayhill/store/RunStatus", "isFinal", "()Z"⟩ : MethodName)) (z := (⟨"com/example/murray_hill/murrayhill/store/RunStatus", "isFinal", "()Z"⟩ : MethodName)) hown (mvT hZ (hw _ (List.mem_of_getElem? (i := 8) rfl))) (mvT hZ (hw _ (List.mem_of_getElem? (i := 9) rfl))) (notFace_of_selects (args := #[]) (mvT hZ (hw _ (List.mem_of_getElem? (i := 11) rfl)))) (mvT hZ (hw _ (List.mem_of_getElem? (i := 11) rfl))) (mvT hZ (hw _ (List.mem_of_getElem? (i := 10) rfl))) (by decide) (backOf (W := 0) (rm2_6 l Z a0 hw [] w_RunStatus_TIMED_OUT h0 n0 Z0 E_RunStatus_TIMED_OUT F_RunStatus_TIMED_OUT_ordinal) hZ (hw _ (List.mem_of_getElem? (i := 12) rfl)) (hw _ (List.mem_of_getElem? (i := 6) rfl)) (by decide) (by decide)) q15a q15c (g := (mkF m 36 (LS_IIRII p0 (6 : Int32) w_RunStatus_TIMED_OUT (0 : Int32) (1 : Int32)) [(.ref w_RunStatus_TIMED_OUT)])) rfl (by rw [hml]; rfl) (Steps.refl _) (argsL := []) (rest := []) (lenOf pd___Z rfl) rfl (by show 2 * 0 + _ ≤ _; exact Nat.le_of_eq rfl) (hb hby at_36) (fun _ _ => ⟨rfl, e14, (by decide : 0 + 0 ≤ _), (by decide : 0 + 0 ≤ _)⟩)
    dsimp only [Pt.U, Pt.locs, Pt.cells, Pt.slots] at X15 l15 y15 z15 st15 hQ15
    subst l15 y15 z15
    obtain ⟨rfl, N15q, e15⟩ := hQ15
    have N15 := Fr.app N14 N15q
    refine own_go (B := T15.setTop (mkF m 39 (LS_IIRII p0 (6 : Int32) w_RunStatus_TIMED_OUT (0 : Int32) (1 : Int32)) [(.int (1 : Int32))])) (fun t k => st15.trans k) ?_
    refine own_go (B := T15.setTop (mkF m 49 (LS_IIRII p0 (6 : Int32) w_RunStatus_TIMED_OUT (0 : Int32) (1 : Int32)) [(.int (1 : Int32))])) (fun t k => ?_) ?_
    · show Steps p.tables e below (T15.setTop (mkF m 39 (LS_IIRII p0 (6 : Int32) w_RunStatus_TIMED_OUT (0 : Int32) (1 : Int32)) [(.int (1 : Int32))])) _
      refine XS.iload X15.here hx rfl (hb hby at_39) rfl ?_
      show Steps p.tables e below (T15.setTop (mkF m 41 (LS_IIRII p0 (6 : Int32) w_RunStatus_TIMED_OUT (0 : Int32) (1 : Int32)) [(.int (1 : Int32)), (.int (1 : Int32))])) _
      refine XS.icmpNo X15.here hx rfl (hb hby at_41) rfl (teq (by decide : (1 : Int32) = (1 : Int32))).2 ?_
      show Steps p.tables e below (T15.setTop (mkF m 44 (LS_IIRII p0 (6 : Int32) w_RunStatus_TIMED_OUT (0 : Int32) (1 : Int32)) [])) _
      refine XS.iconst X15.here hx rfl (hb hby at_44) ?_
      show Steps p.tables e below (T15.setTop (mkF m 45 (LS_IIRII p0 (6 : Int32) w_RunStatus_TIMED_OUT (0 : Int32) (1 : Int32)) [(.int (1 : Int32))])) _
      refine XS.goto X15.here hx rfl (pc0 := 45) (pc' := 49) rfl (hb hby at_45) (by decide) (by decide) ?_
      exact k
    obtain ⟨fs, hr, hrun, hended, hW, hsame⟩ := X15.leave (v := some (.int (1 : Int32))) (fun h => by rw [Bd.returns] at h; cases h)
    refine ⟨_, _, ?_, hrun, hended, _, _, rfl, ?_, ⟨_, rfl⟩, hW, hsame.mono (by decide) (by decide)⟩
    · show Steps p.tables e below (T15.setTop (mkF m 49 (LS_IIRII p0 (6 : Int32) w_RunStatus_TIMED_OUT (0 : Int32) (1 : Int32)) [(.int (1 : Int32))])) _
      exact retN X15 hx (t := .boolean) Bd.returns (by simp) (hb hby at_49) hr
    · show Q0 Z p0 w_RunStatus_QUEUED w_RunStatus_SUCCEEDED w_RunStatus_RUNNING w_RunStatus_PARTIAL w_RunStatus_CANCELED w_RunStatus_RETRYING w_RunStatus_INTERRUPTED w_RunStatus_SKIPPED w_RunStatus_FAILED w_RunStatus_TIMED_OUT h0 n0 _ T15.heap _
      rw [e15]
      exact ⟨rfl, N15⟩
  · rw [hk1]
    refine own_go (B := s₁.setTop (mkF m 9 (LS_IIuuu p0 (7 : Int32)) [(.int (7 : Int32))])) (fun t k => ?_) ?_
    · show Steps p.tables e below (s₁.setTop (mkF m 7 (LS_Iuuuu p0) [(.int (7 : Int32))])) _
      refine XS.istoreN X0.here hx rfl (hb hby at_7) rfl (l' := (LS_IIuuu p0 (7 : Int32))) rfl ?_
      show Steps p.tables e below (s₁.setTop (mkF m 8 (LS_IIuuu p0 (7 : Int32)) [])) _
      refine XS.iloadN X0.here hx rfl (hb hby at_8) rfl ?_
      exact k
    obtain ⟨_, _, ⟨T16, L16, k16, n16⟩, -, X16, ⟨Lc16, hQ16, l16, y16, z16⟩, st16⟩ := Jvm.LawKit.callS X0 hx (y := (⟨"com/example/murray_hill/murrayhill/store/RunStatusIsFinalPinLaw", "pick", "(I)Lcom/example/murray_hill/murrayhill/store/RunStatus;"⟩ : MethodName)) hown (mvT hZ (hw _ (List.mem_of_getElem? (i := 1) rfl))) (mvT hZ (hw _ (List.mem_of_getElem? (i := 2) rfl))) (mvT hZ (hw _ (List.mem_of_getElem? (i := 3) rfl))) (mvT hZ (hw _ (List.mem_of_getElem? (i := 4) rfl))) (by decide) (backOf (W := 0) (rm1_7 l Z a0 hw [] w_RunStatus_CANCELED h0 n0 Z0 S_RunStatus_CANCELED) hZ (hw _ (List.mem_of_getElem? (i := 4) rfl)) (hw _ (List.mem_of_getElem? (i := 3) rfl)) (by decide) (by decide)) (g := (mkF m 9 (LS_IIuuu p0 (7 : Int32)) [(.int (7 : Int32))])) rfl (by rw [hml]; rfl) (argsL := [(.int (7 : Int32))]) (rest := []) (lenOf pd__I_Lcom_example_murray_hill_murrayhill_store_RunStatus_ rfl) rfl (by show 2 * 0 + _ ≤ _; exact Nat.le_of_eq rfl) (hb hby at_9) (fun _ _ => ⟨rfl, e0, (by decide : 0 + 0 ≤ _), (by decide : 0 + 0 ≤ _)⟩)
    dsimp only [Pt.U, Pt.locs, Pt.cells, Pt.slots] at X16 l16 y16 z16 st16 hQ16
    subst l16 y16 z16
    obtain ⟨rfl, N16q, e16⟩ := hQ16
    have N16 := Fr.app N0 N16q
    refine own_go (B := T16.setTop (mkF m 12 (LS_IIuuu p0 (7 : Int32)) [(.ref w_RunStatus_CANCELED)])) (fun t k => st16 _ k) ?_
    refine own_go (B := T16.setTop (mkF m 36 (LS_IIRII p0 (7 : Int32) w_RunStatus_CANCELED (0 : Int32) (1 : Int32)) [(.ref w_RunStatus_CANCELED)])) (fun t k => ?_) ?_
    · show Steps p.tables e below (T16.setTop (mkF m 12 (LS_IIuuu p0 (7 : Int32)) [(.ref w_RunStatus_CANCELED)])) _
      refine XS.astoreN X16.here hx rfl (hb hby at_12) rfl rfl (l' := (LS_IIRuu p0 (7 : Int32) w_RunStatus_CANCELED)) rfl ?_
      show Steps p.tables e below (T16.setTop (mkF m 13 (LS_IIRuu p0 (7 : Int32) w_RunStatus_CANCELED) [])) _
      refine XS.iloadN X16.here hx rfl (hb hby at_13) rfl ?_
      show Steps p.tables e below (T16.setTop (mkF m 14 (LS_IIRuu p0 (7 : Int32) w_RunStatus_CANCELED) [(.int (7 : Int32))])) _
      refine XS.iconst X16.here hx rfl (hb hby at_14) ?_
      show Steps p.tables e below (T16.setTop (mkF m 15 (LS_IIRuu p0 (7 : Int32) w_RunStatus_CANCELED) [(.int (3 : Int32)), (.int (7 : Int32))])) _
      refine XS.icmpYes X16.here hx rfl (pc0 := 15) (pc' := 22) rfl (hb hby at_15) rfl (flt (by decide : ¬ ((7 : Int32) < (3 : Int32)))).2.1 (by decide) (by decide) ?_
      show Steps p.tables e below (T16.setTop (mkF m 22 (LS_IIRuu p0 (7 : Int32) w_RunStatus_CANCELED) [])) _
      refine XS.iconst X16.here hx rfl (hb hby at_22) ?_
      show Steps p.tables e below (T16.setTop (mkF m 23 (LS_IIRuu p0 (7 : Int32) w_RunStatus_CANCELED) [(.int (0 : Int32))])) _
      refine XS.istoreN X16.here hx rfl (hb hby at_23) rfl (l' := (LS_IIRIu p0 (7 : Int32) w_RunStatus_CANCELED (0 : Int32))) rfl ?_
      show Steps p.tables e below (T16.setTop (mkF m 24 (LS_IIRIu p0 (7 : Int32) w_RunStatus_CANCELED (0 : Int32)) [])) _
      refine XS.iloadN X16.here hx rfl (hb hby at_24) rfl ?_
      show Steps p.tables e below (T16.setTop (mkF m 25 (LS_IIRIu p0 (7 : Int32) w_RunStatus_CANCELED (0 : Int32)) [(.int (0 : Int32))])) _
      refine XS.ifNo X16.here hx rfl (hb hby at_25) rfl ((if0 _ _).trans (teq (by decide : (0 : Int32) = (0 : Int32))).2) ?_
      show Steps p.tables e below (T16.setTop (mkF m 28 (LS_IIRIu p0 (7 : Int32) w_RunStatus_CANCELED (0 : Int32)) [])) _
      refine XS.iconst X16.here hx rfl (hb hby at_28) ?_
      show Steps p.tables e below (T16.setTop (mkF m 29 (LS_IIRIu p0 (7 : Int32) w_RunStatus_CANCELED (0 : Int32)) [(.int (1 : Int32))])) _
      refine XS.goto X16.here hx rfl (pc0 := 29) (pc' := 33) rfl (hb hby at_29) (by decide) (by decide) ?_
      show Steps p.tables e below (T16.setTop (mkF m 33 (LS_IIRIu p0 (7 : Int32) w_RunStatus_CANCELED (0 : Int32)) [(.int (1 : Int32))])) _
      refine XS.istore X16.here hx rfl (hb hby at_33) rfl (l' := (LS_IIRII p0 (7 : Int32) w_RunStatus_CANCELED (0 : Int32) (1 : Int32))) rfl ?_
      show Steps p.tables e below (T16.setTop (mkF m 35 (LS_IIRII p0 (7 : Int32) w_RunStatus_CANCELED (0 : Int32) (1 : Int32)) [])) _
      refine XS.aloadN X16.here hx rfl (hb hby at_35) rfl rfl ?_
      exact k
    obtain ⟨cq17, kq17, q17a, q17b, q17c⟩ := isOf hZ e16 E_RunStatus_CANCELED
    obtain ⟨_, _, ⟨T17, L17, k17, n17⟩, -, X17, ⟨Lc17, hQ17, l17, y17, z17⟩, st17⟩ := X16.virtualBack hx (y := (⟨"com/example/murray_hill/murrayhill/store/RunStatus", "isFinal", "()Z"⟩ : MethodName)) (z := (⟨"com/example/murray_hill/murrayhill/store/RunStatus", "isFinal", "()Z"⟩ : MethodName)) hown (mvT hZ (hw _ (List.mem_of_getElem? (i := 8) rfl))) (mvT hZ (hw _ (List.mem_of_getElem? (i := 9) rfl))) (notFace_of_selects (args := #[]) (mvT hZ (hw _ (List.mem_of_getElem? (i := 11) rfl)))) (mvT hZ (hw _ (List.mem_of_getElem? (i := 11) rfl))) (mvT hZ (hw _ (List.mem_of_getElem? (i := 10) rfl))) (by decide) (backOf (W := 0) (rm2_7 l Z a0 hw [] w_RunStatus_CANCELED h0 n0 Z0 E_RunStatus_CANCELED F_RunStatus_CANCELED_ordinal) hZ (hw _ (List.mem_of_getElem? (i := 12) rfl)) (hw _ (List.mem_of_getElem? (i := 6) rfl)) (by decide) (by decide)) q17a q17c (g := (mkF m 36 (LS_IIRII p0 (7 : Int32) w_RunStatus_CANCELED (0 : Int32) (1 : Int32)) [(.ref w_RunStatus_CANCELED)])) rfl (by rw [hml]; rfl) (Steps.refl _) (argsL := []) (rest := []) (lenOf pd___Z rfl) rfl (by show 2 * 0 + _ ≤ _; exact Nat.le_of_eq rfl) (hb hby at_36) (fun _ _ => ⟨rfl, e16, (by decide : 0 + 0 ≤ _), (by decide : 0 + 0 ≤ _)⟩)
    dsimp only [Pt.U, Pt.locs, Pt.cells, Pt.slots] at X17 l17 y17 z17 st17 hQ17
    subst l17 y17 z17
    obtain ⟨rfl, N17q, e17⟩ := hQ17
    have N17 := Fr.app N16 N17q
    refine own_go (B := T17.setTop (mkF m 39 (LS_IIRII p0 (7 : Int32) w_RunStatus_CANCELED (0 : Int32) (1 : Int32)) [(.int (1 : Int32))])) (fun t k => st17.trans k) ?_
    refine own_go (B := T17.setTop (mkF m 49 (LS_IIRII p0 (7 : Int32) w_RunStatus_CANCELED (0 : Int32) (1 : Int32)) [(.int (1 : Int32))])) (fun t k => ?_) ?_
    · show Steps p.tables e below (T17.setTop (mkF m 39 (LS_IIRII p0 (7 : Int32) w_RunStatus_CANCELED (0 : Int32) (1 : Int32)) [(.int (1 : Int32))])) _
      refine XS.iload X17.here hx rfl (hb hby at_39) rfl ?_
      show Steps p.tables e below (T17.setTop (mkF m 41 (LS_IIRII p0 (7 : Int32) w_RunStatus_CANCELED (0 : Int32) (1 : Int32)) [(.int (1 : Int32)), (.int (1 : Int32))])) _
      refine XS.icmpNo X17.here hx rfl (hb hby at_41) rfl (teq (by decide : (1 : Int32) = (1 : Int32))).2 ?_
      show Steps p.tables e below (T17.setTop (mkF m 44 (LS_IIRII p0 (7 : Int32) w_RunStatus_CANCELED (0 : Int32) (1 : Int32)) [])) _
      refine XS.iconst X17.here hx rfl (hb hby at_44) ?_
      show Steps p.tables e below (T17.setTop (mkF m 45 (LS_IIRII p0 (7 : Int32) w_RunStatus_CANCELED (0 : Int32) (1 : Int32)) [(.int (1 : Int32))])) _
      refine XS.goto X17.here hx rfl (pc0 := 45) (pc' := 49) rfl (hb hby at_45) (by decide) (by decide) ?_
      exact k
    obtain ⟨fs, hr, hrun, hended, hW, hsame⟩ := X17.leave (v := some (.int (1 : Int32))) (fun h => by rw [Bd.returns] at h; cases h)
    refine ⟨_, _, ?_, hrun, hended, _, _, rfl, ?_, ⟨_, rfl⟩, hW, hsame.mono (by decide) (by decide)⟩
    · show Steps p.tables e below (T17.setTop (mkF m 49 (LS_IIRII p0 (7 : Int32) w_RunStatus_CANCELED (0 : Int32) (1 : Int32)) [(.int (1 : Int32))])) _
      exact retN X17 hx (t := .boolean) Bd.returns (by simp) (hb hby at_49) hr
    · show Q0 Z p0 w_RunStatus_QUEUED w_RunStatus_SUCCEEDED w_RunStatus_RUNNING w_RunStatus_PARTIAL w_RunStatus_CANCELED w_RunStatus_RETRYING w_RunStatus_INTERRUPTED w_RunStatus_SKIPPED w_RunStatus_FAILED w_RunStatus_TIMED_OUT h0 n0 _ T17.heap _
      rw [e17]
      exact ⟨rfl, N17⟩
  · rw [hk1]
    refine own_go (B := s₁.setTop (mkF m 9 (LS_IIuuu p0 (8 : Int32)) [(.int (8 : Int32))])) (fun t k => ?_) ?_
    · show Steps p.tables e below (s₁.setTop (mkF m 7 (LS_Iuuuu p0) [(.int (8 : Int32))])) _
      refine XS.istoreN X0.here hx rfl (hb hby at_7) rfl (l' := (LS_IIuuu p0 (8 : Int32))) rfl ?_
      show Steps p.tables e below (s₁.setTop (mkF m 8 (LS_IIuuu p0 (8 : Int32)) [])) _
      refine XS.iloadN X0.here hx rfl (hb hby at_8) rfl ?_
      exact k
    obtain ⟨_, _, ⟨T18, L18, k18, n18⟩, -, X18, ⟨Lc18, hQ18, l18, y18, z18⟩, st18⟩ := Jvm.LawKit.callS X0 hx (y := (⟨"com/example/murray_hill/murrayhill/store/RunStatusIsFinalPinLaw", "pick", "(I)Lcom/example/murray_hill/murrayhill/store/RunStatus;"⟩ : MethodName)) hown (mvT hZ (hw _ (List.mem_of_getElem? (i := 1) rfl))) (mvT hZ (hw _ (List.mem_of_getElem? (i := 2) rfl))) (mvT hZ (hw _ (List.mem_of_getElem? (i := 3) rfl))) (mvT hZ (hw _ (List.mem_of_getElem? (i := 4) rfl))) (by decide) (backOf (W := 0) (rm1_8 l Z a0 hw [] w_RunStatus_INTERRUPTED h0 n0 Z0 S_RunStatus_INTERRUPTED) hZ (hw _ (List.mem_of_getElem? (i := 4) rfl)) (hw _ (List.mem_of_getElem? (i := 3) rfl)) (by decide) (by decide)) (g := (mkF m 9 (LS_IIuuu p0 (8 : Int32)) [(.int (8 : Int32))])) rfl (by rw [hml]; rfl) (argsL := [(.int (8 : Int32))]) (rest := []) (lenOf pd__I_Lcom_example_murray_hill_murrayhill_store_RunStatus_ rfl) rfl (by show 2 * 0 + _ ≤ _; exact Nat.le_of_eq rfl) (hb hby at_9) (fun _ _ => ⟨rfl, e0, (by decide : 0 + 0 ≤ _), (by decide : 0 + 0 ≤ _)⟩)
    dsimp only [Pt.U, Pt.locs, Pt.cells, Pt.slots] at X18 l18 y18 z18 st18 hQ18
    subst l18 y18 z18
    obtain ⟨rfl, N18q, e18⟩ := hQ18
    have N18 := Fr.app N0 N18q
    refine own_go (B := T18.setTop (mkF m 12 (LS_IIuuu p0 (8 : Int32)) [(.ref w_RunStatus_INTERRUPTED)])) (fun t k => st18 _ k) ?_
    refine own_go (B := T18.setTop (mkF m 36 (LS_IIRII p0 (8 : Int32) w_RunStatus_INTERRUPTED (0 : Int32) (1 : Int32)) [(.ref w_RunStatus_INTERRUPTED)])) (fun t k => ?_) ?_
    · show Steps p.tables e below (T18.setTop (mkF m 12 (LS_IIuuu p0 (8 : Int32)) [(.ref w_RunStatus_INTERRUPTED)])) _
      refine XS.astoreN X18.here hx rfl (hb hby at_12) rfl rfl (l' := (LS_IIRuu p0 (8 : Int32) w_RunStatus_INTERRUPTED)) rfl ?_
      show Steps p.tables e below (T18.setTop (mkF m 13 (LS_IIRuu p0 (8 : Int32) w_RunStatus_INTERRUPTED) [])) _
      refine XS.iloadN X18.here hx rfl (hb hby at_13) rfl ?_
      show Steps p.tables e below (T18.setTop (mkF m 14 (LS_IIRuu p0 (8 : Int32) w_RunStatus_INTERRUPTED) [(.int (8 : Int32))])) _
      refine XS.iconst X18.here hx rfl (hb hby at_14) ?_
      show Steps p.tables e below (T18.setTop (mkF m 15 (LS_IIRuu p0 (8 : Int32) w_RunStatus_INTERRUPTED) [(.int (3 : Int32)), (.int (8 : Int32))])) _
      refine XS.icmpYes X18.here hx rfl (pc0 := 15) (pc' := 22) rfl (hb hby at_15) rfl (flt (by decide : ¬ ((8 : Int32) < (3 : Int32)))).2.1 (by decide) (by decide) ?_
      show Steps p.tables e below (T18.setTop (mkF m 22 (LS_IIRuu p0 (8 : Int32) w_RunStatus_INTERRUPTED) [])) _
      refine XS.iconst X18.here hx rfl (hb hby at_22) ?_
      show Steps p.tables e below (T18.setTop (mkF m 23 (LS_IIRuu p0 (8 : Int32) w_RunStatus_INTERRUPTED) [(.int (0 : Int32))])) _
      refine XS.istoreN X18.here hx rfl (hb hby at_23) rfl (l' := (LS_IIRIu p0 (8 : Int32) w_RunStatus_INTERRUPTED (0 : Int32))) rfl ?_
      show Steps p.tables e below (T18.setTop (mkF m 24 (LS_IIRIu p0 (8 : Int32) w_RunStatus_INTERRUPTED (0 : Int32)) [])) _
      refine XS.iloadN X18.here hx rfl (hb hby at_24) rfl ?_
      show Steps p.tables e below (T18.setTop (mkF m 25 (LS_IIRIu p0 (8 : Int32) w_RunStatus_INTERRUPTED (0 : Int32)) [(.int (0 : Int32))])) _
      refine XS.ifNo X18.here hx rfl (hb hby at_25) rfl ((if0 _ _).trans (teq (by decide : (0 : Int32) = (0 : Int32))).2) ?_
      show Steps p.tables e below (T18.setTop (mkF m 28 (LS_IIRIu p0 (8 : Int32) w_RunStatus_INTERRUPTED (0 : Int32)) [])) _
      refine XS.iconst X18.here hx rfl (hb hby at_28) ?_
      show Steps p.tables e below (T18.setTop (mkF m 29 (LS_IIRIu p0 (8 : Int32) w_RunStatus_INTERRUPTED (0 : Int32)) [(.int (1 : Int32))])) _
      refine XS.goto X18.here hx rfl (pc0 := 29) (pc' := 33) rfl (hb hby at_29) (by decide) (by decide) ?_
      show Steps p.tables e below (T18.setTop (mkF m 33 (LS_IIRIu p0 (8 : Int32) w_RunStatus_INTERRUPTED (0 : Int32)) [(.int (1 : Int32))])) _
      refine XS.istore X18.here hx rfl (hb hby at_33) rfl (l' := (LS_IIRII p0 (8 : Int32) w_RunStatus_INTERRUPTED (0 : Int32) (1 : Int32))) rfl ?_
      show Steps p.tables e below (T18.setTop (mkF m 35 (LS_IIRII p0 (8 : Int32) w_RunStatus_INTERRUPTED (0 : Int32) (1 : Int32)) [])) _
      refine XS.aloadN X18.here hx rfl (hb hby at_35) rfl rfl ?_
      exact k
    obtain ⟨cq19, kq19, q19a, q19b, q19c⟩ := isOf hZ e18 E_RunStatus_INTERRUPTED
    obtain ⟨_, _, ⟨T19, L19, k19, n19⟩, -, X19, ⟨Lc19, hQ19, l19, y19, z19⟩, st19⟩ := X18.virtualBack hx (y := (⟨"com/example/murray_hill/murrayhill/store/RunStatus", "isFinal", "()Z"⟩ : MethodName)) (z := (⟨"com/example/murray_hill/murrayhill/store/RunStatus", "isFinal", "()Z"⟩ : MethodName)) hown (mvT hZ (hw _ (List.mem_of_getElem? (i := 8) rfl))) (mvT hZ (hw _ (List.mem_of_getElem? (i := 9) rfl))) (notFace_of_selects (args := #[]) (mvT hZ (hw _ (List.mem_of_getElem? (i := 11) rfl)))) (mvT hZ (hw _ (List.mem_of_getElem? (i := 11) rfl))) (mvT hZ (hw _ (List.mem_of_getElem? (i := 10) rfl))) (by decide) (backOf (W := 0) (rm2_8 l Z a0 hw [] w_RunStatus_INTERRUPTED h0 n0 Z0 E_RunStatus_INTERRUPTED F_RunStatus_INTERRUPTED_ordinal) hZ (hw _ (List.mem_of_getElem? (i := 12) rfl)) (hw _ (List.mem_of_getElem? (i := 6) rfl)) (by decide) (by decide)) q19a q19c (g := (mkF m 36 (LS_IIRII p0 (8 : Int32) w_RunStatus_INTERRUPTED (0 : Int32) (1 : Int32)) [(.ref w_RunStatus_INTERRUPTED)])) rfl (by rw [hml]; rfl) (Steps.refl _) (argsL := []) (rest := []) (lenOf pd___Z rfl) rfl (by show 2 * 0 + _ ≤ _; exact Nat.le_of_eq rfl) (hb hby at_36) (fun _ _ => ⟨rfl, e18, (by decide : 0 + 0 ≤ _), (by decide : 0 + 0 ≤ _)⟩)
    dsimp only [Pt.U, Pt.locs, Pt.cells, Pt.slots] at X19 l19 y19 z19 st19 hQ19
    subst l19 y19 z19
    obtain ⟨rfl, N19q, e19⟩ := hQ19
    have N19 := Fr.app N18 N19q
    refine own_go (B := T19.setTop (mkF m 39 (LS_IIRII p0 (8 : Int32) w_RunStatus_INTERRUPTED (0 : Int32) (1 : Int32)) [(.int (1 : Int32))])) (fun t k => st19.trans k) ?_
    refine own_go (B := T19.setTop (mkF m 49 (LS_IIRII p0 (8 : Int32) w_RunStatus_INTERRUPTED (0 : Int32) (1 : Int32)) [(.int (1 : Int32))])) (fun t k => ?_) ?_
    · show Steps p.tables e below (T19.setTop (mkF m 39 (LS_IIRII p0 (8 : Int32) w_RunStatus_INTERRUPTED (0 : Int32) (1 : Int32)) [(.int (1 : Int32))])) _
      refine XS.iload X19.here hx rfl (hb hby at_39) rfl ?_
      show Steps p.tables e below (T19.setTop (mkF m 41 (LS_IIRII p0 (8 : Int32) w_RunStatus_INTERRUPTED (0 : Int32) (1 : Int32)) [(.int (1 : Int32)), (.int (1 : Int32))])) _
      refine XS.icmpNo X19.here hx rfl (hb hby at_41) rfl (teq (by decide : (1 : Int32) = (1 : Int32))).2 ?_
      show Steps p.tables e below (T19.setTop (mkF m 44 (LS_IIRII p0 (8 : Int32) w_RunStatus_INTERRUPTED (0 : Int32) (1 : Int32)) [])) _
      refine XS.iconst X19.here hx rfl (hb hby at_44) ?_
      show Steps p.tables e below (T19.setTop (mkF m 45 (LS_IIRII p0 (8 : Int32) w_RunStatus_INTERRUPTED (0 : Int32) (1 : Int32)) [(.int (1 : Int32))])) _
      refine XS.goto X19.here hx rfl (pc0 := 45) (pc' := 49) rfl (hb hby at_45) (by decide) (by decide) ?_
      exact k
    obtain ⟨fs, hr, hrun, hended, hW, hsame⟩ := X19.leave (v := some (.int (1 : Int32))) (fun h => by rw [Bd.returns] at h; cases h)
    refine ⟨_, _, ?_, hrun, hended, _, _, rfl, ?_, ⟨_, rfl⟩, hW, hsame.mono (by decide) (by decide)⟩
    · show Steps p.tables e below (T19.setTop (mkF m 49 (LS_IIRII p0 (8 : Int32) w_RunStatus_INTERRUPTED (0 : Int32) (1 : Int32)) [(.int (1 : Int32))])) _
      exact retN X19 hx (t := .boolean) Bd.returns (by simp) (hb hby at_49) hr
    · show Q0 Z p0 w_RunStatus_QUEUED w_RunStatus_SUCCEEDED w_RunStatus_RUNNING w_RunStatus_PARTIAL w_RunStatus_CANCELED w_RunStatus_RETRYING w_RunStatus_INTERRUPTED w_RunStatus_SKIPPED w_RunStatus_FAILED w_RunStatus_TIMED_OUT h0 n0 _ T19.heap _
      rw [e19]
      exact ⟨rfl, N19⟩
  · rw [hk1]
    refine own_go (B := s₁.setTop (mkF m 9 (LS_IIuuu p0 (9 : Int32)) [(.int (9 : Int32))])) (fun t k => ?_) ?_
    · show Steps p.tables e below (s₁.setTop (mkF m 7 (LS_Iuuuu p0) [(.int (9 : Int32))])) _
      refine XS.istoreN X0.here hx rfl (hb hby at_7) rfl (l' := (LS_IIuuu p0 (9 : Int32))) rfl ?_
      show Steps p.tables e below (s₁.setTop (mkF m 8 (LS_IIuuu p0 (9 : Int32)) [])) _
      refine XS.iloadN X0.here hx rfl (hb hby at_8) rfl ?_
      exact k
    obtain ⟨_, _, ⟨T20, L20, k20, n20⟩, -, X20, ⟨Lc20, hQ20, l20, y20, z20⟩, st20⟩ := Jvm.LawKit.callS X0 hx (y := (⟨"com/example/murray_hill/murrayhill/store/RunStatusIsFinalPinLaw", "pick", "(I)Lcom/example/murray_hill/murrayhill/store/RunStatus;"⟩ : MethodName)) hown (mvT hZ (hw _ (List.mem_of_getElem? (i := 1) rfl))) (mvT hZ (hw _ (List.mem_of_getElem? (i := 2) rfl))) (mvT hZ (hw _ (List.mem_of_getElem? (i := 3) rfl))) (mvT hZ (hw _ (List.mem_of_getElem? (i := 4) rfl))) (by decide) (backOf (W := 0) (rm1_9 l Z a0 hw [] w_RunStatus_SKIPPED h0 n0 Z0 S_RunStatus_SKIPPED) hZ (hw _ (List.mem_of_getElem? (i := 4) rfl)) (hw _ (List.mem_of_getElem? (i := 3) rfl)) (by decide) (by decide)) (g := (mkF m 9 (LS_IIuuu p0 (9 : Int32)) [(.int (9 : Int32))])) rfl (by rw [hml]; rfl) (argsL := [(.int (9 : Int32))]) (rest := []) (lenOf pd__I_Lcom_example_murray_hill_murrayhill_store_RunStatus_ rfl) rfl (by show 2 * 0 + _ ≤ _; exact Nat.le_of_eq rfl) (hb hby at_9) (fun _ _ => ⟨rfl, e0, (by decide : 0 + 0 ≤ _), (by decide : 0 + 0 ≤ _)⟩)
    dsimp only [Pt.U, Pt.locs, Pt.cells, Pt.slots] at X20 l20 y20 z20 st20 hQ20
    subst l20 y20 z20
    obtain ⟨rfl, N20q, e20⟩ := hQ20
    have N20 := Fr.app N0 N20q
    refine own_go (B := T20.setTop (mkF m 12 (LS_IIuuu p0 (9 : Int32)) [(.ref w_RunStatus_SKIPPED)])) (fun t k => st20 _ k) ?_
    refine own_go (B := T20.setTop (mkF m 36 (LS_IIRII p0 (9 : Int32) w_RunStatus_SKIPPED (0 : Int32) (1 : Int32)) [(.ref w_RunStatus_SKIPPED)])) (fun t k => ?_) ?_
    · show Steps p.tables e below (T20.setTop (mkF m 12 (LS_IIuuu p0 (9 : Int32)) [(.ref w_RunStatus_SKIPPED)])) _
      refine XS.astoreN X20.here hx rfl (hb hby at_12) rfl rfl (l' := (LS_IIRuu p0 (9 : Int32) w_RunStatus_SKIPPED)) rfl ?_
      show Steps p.tables e below (T20.setTop (mkF m 13 (LS_IIRuu p0 (9 : Int32) w_RunStatus_SKIPPED) [])) _
      refine XS.iloadN X20.here hx rfl (hb hby at_13) rfl ?_
      show Steps p.tables e below (T20.setTop (mkF m 14 (LS_IIRuu p0 (9 : Int32) w_RunStatus_SKIPPED) [(.int (9 : Int32))])) _
      refine XS.iconst X20.here hx rfl (hb hby at_14) ?_
      show Steps p.tables e below (T20.setTop (mkF m 15 (LS_IIRuu p0 (9 : Int32) w_RunStatus_SKIPPED) [(.int (3 : Int32)), (.int (9 : Int32))])) _
      refine XS.icmpYes X20.here hx rfl (pc0 := 15) (pc' := 22) rfl (hb hby at_15) rfl (flt (by decide : ¬ ((9 : Int32) < (3 : Int32)))).2.1 (by decide) (by decide) ?_
      show Steps p.tables e below (T20.setTop (mkF m 22 (LS_IIRuu p0 (9 : Int32) w_RunStatus_SKIPPED) [])) _
      refine XS.iconst X20.here hx rfl (hb hby at_22) ?_
      show Steps p.tables e below (T20.setTop (mkF m 23 (LS_IIRuu p0 (9 : Int32) w_RunStatus_SKIPPED) [(.int (0 : Int32))])) _
      refine XS.istoreN X20.here hx rfl (hb hby at_23) rfl (l' := (LS_IIRIu p0 (9 : Int32) w_RunStatus_SKIPPED (0 : Int32))) rfl ?_
      show Steps p.tables e below (T20.setTop (mkF m 24 (LS_IIRIu p0 (9 : Int32) w_RunStatus_SKIPPED (0 : Int32)) [])) _
      refine XS.iloadN X20.here hx rfl (hb hby at_24) rfl ?_
      show Steps p.tables e below (T20.setTop (mkF m 25 (LS_IIRIu p0 (9 : Int32) w_RunStatus_SKIPPED (0 : Int32)) [(.int (0 : Int32))])) _
      refine XS.ifNo X20.here hx rfl (hb hby at_25) rfl ((if0 _ _).trans (teq (by decide : (0 : Int32) = (0 : Int32))).2) ?_
      show Steps p.tables e below (T20.setTop (mkF m 28 (LS_IIRIu p0 (9 : Int32) w_RunStatus_SKIPPED (0 : Int32)) [])) _
      refine XS.iconst X20.here hx rfl (hb hby at_28) ?_
      show Steps p.tables e below (T20.setTop (mkF m 29 (LS_IIRIu p0 (9 : Int32) w_RunStatus_SKIPPED (0 : Int32)) [(.int (1 : Int32))])) _
      refine XS.goto X20.here hx rfl (pc0 := 29) (pc' := 33) rfl (hb hby at_29) (by decide) (by decide) ?_
      show Steps p.tables e below (T20.setTop (mkF m 33 (LS_IIRIu p0 (9 : Int32) w_RunStatus_SKIPPED (0 : Int32)) [(.int (1 : Int32))])) _
      refine XS.istore X20.here hx rfl (hb hby at_33) rfl (l' := (LS_IIRII p0 (9 : Int32) w_RunStatus_SKIPPED (0 : Int32) (1 : Int32))) rfl ?_
      show Steps p.tables e below (T20.setTop (mkF m 35 (LS_IIRII p0 (9 : Int32) w_RunStatus_SKIPPED (0 : Int32) (1 : Int32)) [])) _
      refine XS.aloadN X20.here hx rfl (hb hby at_35) rfl rfl ?_
      exact k
    obtain ⟨cq21, kq21, q21a, q21b, q21c⟩ := isOf hZ e20 E_RunStatus_SKIPPED
    obtain ⟨_, _, ⟨T21, L21, k21, n21⟩, -, X21, ⟨Lc21, hQ21, l21, y21, z21⟩, st21⟩ := X20.virtualBack hx (y := (⟨"com/example/murray_hill/murrayhill/store/RunStatus", "isFinal", "()Z"⟩ : MethodName)) (z := (⟨"com/example/murray_hill/murrayhill/store/RunStatus", "isFinal", "()Z"⟩ : MethodName)) hown (mvT hZ (hw _ (List.mem_of_getElem? (i := 8) rfl))) (mvT hZ (hw _ (List.mem_of_getElem? (i := 9) rfl))) (notFace_of_selects (args := #[]) (mvT hZ (hw _ (List.mem_of_getElem? (i := 11) rfl)))) (mvT hZ (hw _ (List.mem_of_getElem? (i := 11) rfl))) (mvT hZ (hw _ (List.mem_of_getElem? (i := 10) rfl))) (by decide) (backOf (W := 0) (rm2_9 l Z a0 hw [] w_RunStatus_SKIPPED h0 n0 Z0 E_RunStatus_SKIPPED F_RunStatus_SKIPPED_ordinal) hZ (hw _ (List.mem_of_getElem? (i := 12) rfl)) (hw _ (List.mem_of_getElem? (i := 6) rfl)) (by decide) (by decide)) q21a q21c (g := (mkF m 36 (LS_IIRII p0 (9 : Int32) w_RunStatus_SKIPPED (0 : Int32) (1 : Int32)) [(.ref w_RunStatus_SKIPPED)])) rfl (by rw [hml]; rfl) (Steps.refl _) (argsL := []) (rest := []) (lenOf pd___Z rfl) rfl (by show 2 * 0 + _ ≤ _; exact Nat.le_of_eq rfl) (hb hby at_36) (fun _ _ => ⟨rfl, e20, (by decide : 0 + 0 ≤ _), (by decide : 0 + 0 ≤ _)⟩)
    dsimp only [Pt.U, Pt.locs, Pt.cells, Pt.slots] at X21 l21 y21 z21 st21 hQ21
    subst l21 y21 z21
    obtain ⟨rfl, N21q, e21⟩ := hQ21
    have N21 := Fr.app N20 N21q
    refine own_go (B := T21.setTop (mkF m 39 (LS_IIRII p0 (9 : Int32) w_RunStatus_SKIPPED (0 : Int32) (1 : Int32)) [(.int (1 : Int32))])) (fun t k => st21.trans k) ?_
    refine own_go (B := T21.setTop (mkF m 49 (LS_IIRII p0 (9 : Int32) w_RunStatus_SKIPPED (0 : Int32) (1 : Int32)) [(.int (1 : Int32))])) (fun t k => ?_) ?_
    · show Steps p.tables e below (T21.setTop (mkF m 39 (LS_IIRII p0 (9 : Int32) w_RunStatus_SKIPPED (0 : Int32) (1 : Int32)) [(.int (1 : Int32))])) _
      refine XS.iload X21.here hx rfl (hb hby at_39) rfl ?_
      show Steps p.tables e below (T21.setTop (mkF m 41 (LS_IIRII p0 (9 : Int32) w_RunStatus_SKIPPED (0 : Int32) (1 : Int32)) [(.int (1 : Int32)), (.int (1 : Int32))])) _
      refine XS.icmpNo X21.here hx rfl (hb hby at_41) rfl (teq (by decide : (1 : Int32) = (1 : Int32))).2 ?_
      show Steps p.tables e below (T21.setTop (mkF m 44 (LS_IIRII p0 (9 : Int32) w_RunStatus_SKIPPED (0 : Int32) (1 : Int32)) [])) _
      refine XS.iconst X21.here hx rfl (hb hby at_44) ?_
      show Steps p.tables e below (T21.setTop (mkF m 45 (LS_IIRII p0 (9 : Int32) w_RunStatus_SKIPPED (0 : Int32) (1 : Int32)) [(.int (1 : Int32))])) _
      refine XS.goto X21.here hx rfl (pc0 := 45) (pc' := 49) rfl (hb hby at_45) (by decide) (by decide) ?_
      exact k
    obtain ⟨fs, hr, hrun, hended, hW, hsame⟩ := X21.leave (v := some (.int (1 : Int32))) (fun h => by rw [Bd.returns] at h; cases h)
    refine ⟨_, _, ?_, hrun, hended, _, _, rfl, ?_, ⟨_, rfl⟩, hW, hsame.mono (by decide) (by decide)⟩
    · show Steps p.tables e below (T21.setTop (mkF m 49 (LS_IIRII p0 (9 : Int32) w_RunStatus_SKIPPED (0 : Int32) (1 : Int32)) [(.int (1 : Int32))])) _
      exact retN X21 hx (t := .boolean) Bd.returns (by simp) (hb hby at_49) hr
    · show Q0 Z p0 w_RunStatus_QUEUED w_RunStatus_SUCCEEDED w_RunStatus_RUNNING w_RunStatus_PARTIAL w_RunStatus_CANCELED w_RunStatus_RETRYING w_RunStatus_INTERRUPTED w_RunStatus_SKIPPED w_RunStatus_FAILED w_RunStatus_TIMED_OUT h0 n0 _ T21.heap _
      rw [e21]
      exact ⟨rfl, N21⟩
set_option maxRecDepth 65536 in
set_option maxHeartbeats 40000000 in
theorem comes_1 {Post : Tables → Env → Array Value → State → Outcome → State → Prop} (hpost : ∀ tb e args s v u, (limb_1_1.after args s (.returned v) u = true ∧ limb_1_2.after args s (.returned v) u = true ∧ True) → FrameEnd s (.returned v) u (Jvm.fieldLocs frame_1_writes args s ++ Jvm.arrayLocs frame_1_arrays args s ++ Jvm.staticLocs frame_1_statics s) 0 0 → Post tb e args s (.returned v) u) :
    ArmFor flags0 classFile x code maxLocals ret World_1 tables_1 room_1 Calls_1 rest_1 Pre_1 Post := by
  intro l hfl _ _ p e ha hc hk s m args below hf hA hF happ hP
  obtain ⟨hcalls, hrest, hpre⟩ := hP
  obtain ⟨-, -, -, hnamed, -, -, -, hat⟩ := (Spec.applies_iff hf).mp happ
  obtain ⟨hg, hn⟩ := and_e (Cond.before_iff.mp (show (Jvm.Cond.and given_1 narrow_1).before args s = true from hpre))
  obtain ⟨g1, g2⟩ := and_e hg
  obtain ⟨w0, rfl⟩ : ∃ w0 : Value, args = #[w0] := by
    have hs : args.size = 1 := by simpa [Cond.value, given_1] using g1
    obtain ⟨L⟩ := args
    match L, hs with
    | [w0], _ => exact ⟨w0, rfl⟩
  have hw := fun d (hd : d ∈ tables_1) => atoms_spec (ws := Jvm.Cond.code x code maxLocals ret :: tables_1) hat d (List.mem_cons_of_mem _ hd)
  have hfit : Fit s := fun {y c} hc i hi => by
    obtain ⟨ha, rfl⟩ := Array.getElem?_eq_some_iff.mp hc
    have q := List.all_eq_true.mp ((Array.all_eq_true_iff_forall_mem.mp hF) _ (Array.getElem_mem ha)) i (List.mem_range.mpr hi)
    simpa [Array.getElem?_eq_getElem hi] using q
  obtain ⟨i0, ei0⟩ := is_v g2
  obtain rfl : w0 = (.int i0) := Option.some.inj ei0
  obtain ⟨g3, g4⟩ := and_e hn
  obtain ⟨w_RunStatus_QUEUED, ev_RunStatus_QUEUED⟩ := exa_v g3
  have S_RunStatus_QUEUED : Sta s s.heap "com/example/murray_hill/murrayhill/store/RunStatus" "QUEUED" "Lcom/example/murray_hill/murrayhill/store/RunStatus;" (.ref w_RunStatus_QUEUED) := Sta.start ev_RunStatus_QUEUED (Or.inr ⟨(hw _ (List.mem_of_getElem? (i := 6) rfl)), (hw _ (List.mem_of_getElem? (i := 7) rfl))⟩)
  have E_RunStatus_QUEUED : Exa s s.heap w_RunStatus_QUEUED "com/example/murray_hill/murrayhill/store/RunStatus" := Exa.start ev_RunStatus_QUEUED g3
  obtain ⟨g5, g6⟩ := and_e g4
  obtain ⟨g7, g8⟩ := and_e g6
  obtain ⟨w_RunStatus_SUCCEEDED, ev_RunStatus_SUCCEEDED⟩ := exa_v g7
  have S_RunStatus_SUCCEEDED : Sta s s.heap "com/example/murray_hill/murrayhill/store/RunStatus" "SUCCEEDED" "Lcom/example/murray_hill/murrayhill/store/RunStatus;" (.ref w_RunStatus_SUCCEEDED) := Sta.start ev_RunStatus_SUCCEEDED (Or.inr ⟨(hw _ (List.mem_of_getElem? (i := 6) rfl)), (hw _ (List.mem_of_getElem? (i := 23) rfl))⟩)
  have E_RunStatus_SUCCEEDED : Exa s s.heap w_RunStatus_SUCCEEDED "com/example/murray_hill/murrayhill/store/RunStatus" := Exa.start ev_RunStatus_SUCCEEDED g7
  obtain ⟨g9, g10⟩ := and_e g8
  obtain ⟨g11, g12⟩ := and_e g10
  obtain ⟨w_RunStatus_RUNNING, ev_RunStatus_RUNNING⟩ := exa_v g11
  have S_RunStatus_RUNNING : Sta s s.heap "com/example/murray_hill/murrayhill/store/RunStatus" "RUNNING" "Lcom/example/murray_hill/murrayhill/store/RunStatus;" (.ref w_RunStatus_RUNNING) := Sta.start ev_RunStatus_RUNNING (Or.inr ⟨(hw _ (List.mem_of_getElem? (i := 6) rfl)), (hw _ (List.mem_of_getElem? (i := 25) rfl))⟩)
  have E_RunStatus_RUNNING : Exa s s.heap w_RunStatus_RUNNING "com/example/murray_hill/murrayhill/store/RunStatus" := Exa.start ev_RunStatus_RUNNING g11
  obtain ⟨g13, g14⟩ := and_e g12
  obtain ⟨g15, g16⟩ := and_e g14
  obtain ⟨w_RunStatus_PARTIAL, ev_RunStatus_PARTIAL⟩ := exa_v g15
  have S_RunStatus_PARTIAL : Sta s s.heap "com/example/murray_hill/murrayhill/store/RunStatus" "PARTIAL" "Lcom/example/murray_hill/murrayhill/store/RunStatus;" (.ref w_RunStatus_PARTIAL) := Sta.start ev_RunStatus_PARTIAL (Or.inr ⟨(hw _ (List.mem_of_getElem? (i := 6) rfl)), (hw _ (List.mem_of_getElem? (i := 27) rfl))⟩)
  have E_RunStatus_PARTIAL : Exa s s.heap w_RunStatus_PARTIAL "com/example/murray_hill/murrayhill/store/RunStatus" := Exa.start ev_RunStatus_PARTIAL g15
  obtain ⟨g17, g18⟩ := and_e g16
  obtain ⟨g19, g20⟩ := and_e g18
  obtain ⟨w_RunStatus_CANCELED, ev_RunStatus_CANCELED⟩ := exa_v g19
  have S_RunStatus_CANCELED : Sta s s.heap "com/example/murray_hill/murrayhill/store/RunStatus" "CANCELED" "Lcom/example/murray_hill/murrayhill/store/RunStatus;" (.ref w_RunStatus_CANCELED) := Sta.start ev_RunStatus_CANCELED (Or.inr ⟨(hw _ (List.mem_of_getElem? (i := 6) rfl)), (hw _ (List.mem_of_getElem? (i := 29) rfl))⟩)
  have E_RunStatus_CANCELED : Exa s s.heap w_RunStatus_CANCELED "com/example/murray_hill/murrayhill/store/RunStatus" := Exa.start ev_RunStatus_CANCELED g19
  obtain ⟨g21, g22⟩ := and_e g20
  obtain ⟨g23, g24⟩ := and_e g22
  obtain ⟨w_RunStatus_RETRYING, ev_RunStatus_RETRYING⟩ := exa_v g23
  have S_RunStatus_RETRYING : Sta s s.heap "com/example/murray_hill/murrayhill/store/RunStatus" "RETRYING" "Lcom/example/murray_hill/murrayhill/store/RunStatus;" (.ref w_RunStatus_RETRYING) := Sta.start ev_RunStatus_RETRYING (Or.inr ⟨(hw _ (List.mem_of_getElem? (i := 6) rfl)), (hw _ (List.mem_of_getElem? (i := 31) rfl))⟩)
  have E_RunStatus_RETRYING : Exa s s.heap w_RunStatus_RETRYING "com/example/murray_hill/murrayhill/store/RunStatus" := Exa.start ev_RunStatus_RETRYING g23
  obtain ⟨g25, g26⟩ := and_e g24
  obtain ⟨g27, g28⟩ := and_e g26
  obtain ⟨w_RunStatus_INTERRUPTED, ev_RunStatus_INTERRUPTED⟩ := exa_v g27
  have S_RunStatus_INTERRUPTED : Sta s s.heap "com/example/murray_hill/murrayhill/store/RunStatus" "INTERRUPTED" "Lcom/example/murray_hill/murrayhill/store/RunStatus;" (.ref w_RunStatus_INTERRUPTED) := Sta.start ev_RunStatus_INTERRUPTED (Or.inr ⟨(hw _ (List.mem_of_getElem? (i := 6) rfl)), (hw _ (List.mem_of_getElem? (i := 33) rfl))⟩)
  have E_RunStatus_INTERRUPTED : Exa s s.heap w_RunStatus_INTERRUPTED "com/example/murray_hill/murrayhill/store/RunStatus" := Exa.start ev_RunStatus_INTERRUPTED g27
  obtain ⟨g29, g30⟩ := and_e g28
  obtain ⟨g31, g32⟩ := and_e g30
  obtain ⟨w_RunStatus_SKIPPED, ev_RunStatus_SKIPPED⟩ := exa_v g31
  have S_RunStatus_SKIPPED : Sta s s.heap "com/example/murray_hill/murrayhill/store/RunStatus" "SKIPPED" "Lcom/example/murray_hill/murrayhill/store/RunStatus;" (.ref w_RunStatus_SKIPPED) := Sta.start ev_RunStatus_SKIPPED (Or.inr ⟨(hw _ (List.mem_of_getElem? (i := 6) rfl)), (hw _ (List.mem_of_getElem? (i := 35) rfl))⟩)
  have E_RunStatus_SKIPPED : Exa s s.heap w_RunStatus_SKIPPED "com/example/murray_hill/murrayhill/store/RunStatus" := Exa.start ev_RunStatus_SKIPPED g31
  obtain ⟨g33, g34⟩ := and_e g32
  obtain ⟨g35, g36⟩ := and_e g34
  obtain ⟨w_RunStatus_FAILED, ev_RunStatus_FAILED⟩ := exa_v g35
  have S_RunStatus_FAILED : Sta s s.heap "com/example/murray_hill/murrayhill/store/RunStatus" "FAILED" "Lcom/example/murray_hill/murrayhill/store/RunStatus;" (.ref w_RunStatus_FAILED) := Sta.start ev_RunStatus_FAILED (Or.inr ⟨(hw _ (List.mem_of_getElem? (i := 6) rfl)), (hw _ (List.mem_of_getElem? (i := 37) rfl))⟩)
  have E_RunStatus_FAILED : Exa s s.heap w_RunStatus_FAILED "com/example/murray_hill/murrayhill/store/RunStatus" := Exa.start ev_RunStatus_FAILED g35
  obtain ⟨g37, g38⟩ := and_e g36
  obtain ⟨g39, g40⟩ := and_e g38
  obtain ⟨w_RunStatus_TIMED_OUT, ev_RunStatus_TIMED_OUT⟩ := exa_v g39
  have S_RunStatus_TIMED_OUT : Sta s s.heap "com/example/murray_hill/murrayhill/store/RunStatus" "TIMED_OUT" "Lcom/example/murray_hill/murrayhill/store/RunStatus;" (.ref w_RunStatus_TIMED_OUT) := Sta.start ev_RunStatus_TIMED_OUT (Or.inr ⟨(hw _ (List.mem_of_getElem? (i := 6) rfl)), (hw _ (List.mem_of_getElem? (i := 39) rfl))⟩)
  have E_RunStatus_TIMED_OUT : Exa s s.heap w_RunStatus_TIMED_OUT "com/example/murray_hill/murrayhill/store/RunStatus" := Exa.start ev_RunStatus_TIMED_OUT g39
  have F_RunStatus_QUEUED_ordinal : Fld s s.heap w_RunStatus_QUEUED "java/lang/Enum" "ordinal" "I" (.int (0 : Int32)) := Fld.start ((fld_at ev_RunStatus_QUEUED).symm.trans (own_eqI g5))
  have F_RunStatus_SUCCEEDED_ordinal : Fld s s.heap w_RunStatus_SUCCEEDED "java/lang/Enum" "ordinal" "I" (.int (3 : Int32)) := Fld.start ((fld_at ev_RunStatus_SUCCEEDED).symm.trans (own_eqI g9))
  have F_RunStatus_RUNNING_ordinal : Fld s s.heap w_RunStatus_RUNNING "java/lang/Enum" "ordinal" "I" (.int (1 : Int32)) := Fld.start ((fld_at ev_RunStatus_RUNNING).symm.trans (own_eqI g13))
  have F_RunStatus_PARTIAL_ordinal : Fld s s.heap w_RunStatus_PARTIAL "java/lang/Enum" "ordinal" "I" (.int (4 : Int32)) := Fld.start ((fld_at ev_RunStatus_PARTIAL).symm.trans (own_eqI g17))
  have F_RunStatus_CANCELED_ordinal : Fld s s.heap w_RunStatus_CANCELED "java/lang/Enum" "ordinal" "I" (.int (7 : Int32)) := Fld.start ((fld_at ev_RunStatus_CANCELED).symm.trans (own_eqI g21))
  have F_RunStatus_RETRYING_ordinal : Fld s s.heap w_RunStatus_RETRYING "java/lang/Enum" "ordinal" "I" (.int (2 : Int32)) := Fld.start ((fld_at ev_RunStatus_RETRYING).symm.trans (own_eqI g25))
  have F_RunStatus_INTERRUPTED_ordinal : Fld s s.heap w_RunStatus_INTERRUPTED "java/lang/Enum" "ordinal" "I" (.int (8 : Int32)) := Fld.start ((fld_at ev_RunStatus_INTERRUPTED).symm.trans (own_eqI g29))
  have F_RunStatus_SKIPPED_ordinal : Fld s s.heap w_RunStatus_SKIPPED "java/lang/Enum" "ordinal" "I" (.int (9 : Int32)) := Fld.start ((fld_at ev_RunStatus_SKIPPED).symm.trans (own_eqI g33))
  have F_RunStatus_FAILED_ordinal : Fld s s.heap w_RunStatus_FAILED "java/lang/Enum" "ordinal" "I" (.int (5 : Int32)) := Fld.start ((fld_at ev_RunStatus_FAILED).symm.trans (own_eqI g37))
  have F_RunStatus_TIMED_OUT_ordinal : Fld s s.heap w_RunStatus_TIMED_OUT "java/lang/Enum" "ordinal" "I" (.int (6 : Int32)) := Fld.start ((fld_at ev_RunStatus_TIMED_OUT).symm.trans (own_eqI g40))
  obtain ⟨n, o, h1, h2, h3, _, L, rfl, ⟨rfl, N⟩, hq⟩ := rm0 l s _ hw tables_1 i0 w_RunStatus_QUEUED w_RunStatus_SUCCEEDED w_RunStatus_RUNNING w_RunStatus_PARTIAL w_RunStatus_CANCELED w_RunStatus_RETRYING w_RunStatus_INTERRUPTED w_RunStatus_SKIPPED w_RunStatus_FAILED w_RunStatus_TIMED_OUT s.heap s.heap.size (Nat.le_refl _) S_RunStatus_QUEUED E_RunStatus_QUEUED S_RunStatus_SUCCEEDED E_RunStatus_SUCCEEDED S_RunStatus_RUNNING E_RunStatus_RUNNING S_RunStatus_PARTIAL E_RunStatus_PARTIAL S_RunStatus_CANCELED E_RunStatus_CANCELED S_RunStatus_RETRYING E_RunStatus_RETRYING S_RunStatus_INTERRUPTED E_RunStatus_INTERRUPTED S_RunStatus_SKIPPED E_RunStatus_SKIPPED S_RunStatus_FAILED E_RunStatus_FAILED S_RunStatus_TIMED_OUT E_RunStatus_TIMED_OUT F_RunStatus_QUEUED_ordinal F_RunStatus_SUCCEEDED_ordinal F_RunStatus_RUNNING_ordinal F_RunStatus_PARTIAL_ordinal F_RunStatus_CANCELED_ordinal F_RunStatus_RETRYING_ordinal F_RunStatus_INTERRUPTED_ordinal F_RunStatus_SKIPPED_ordinal F_RunStatus_FAILED_ordinal F_RunStatus_TIMED_OUT_ordinal p e ha hc hk s m _ below hf ((Spec.applies_iff_loose hf).mp happ).1 ⟨rfl, State.Warmed39.refl s, rfl⟩ trivial
  refine ⟨n, _, h1, h2, h3, hpost _ _ _ _ _ _ ⟨Cond.after_iff.mpr rfl, Cond.after_iff.mpr (eq_i res_at (Term.int_eval (1)) rfl), trivial⟩ ⟨hq.1, hq.2.1, (hq.2.2.sift fun y hy => Or.inr (N y hy)).mono (by decide) (by decide)⟩⟩
theorem main_1_1 : Claimed_1_1 := comes_1 fun _ _ _ _ _ _ h hF => ⟨h.1, hF⟩
theorem main_1_2 : Claimed_1_2 := comes_1 fun _ _ _ _ _ _ h hF => ⟨h.2.1, hF⟩
end Jvm.Pilot.@@N@@
namespace Jvm.Pilot.@@N@@
open Jvm Jvm.ClassFile Sem Op Lib Jvm.Free Jvm.Stand Jvm.Pilot.@@N@@.Jvm.D
/-! MADE BY PROGRAM (witnessworld.py) out of the Statement's table words and the real class files: 13 classes; the members and pool entries that the words name. The judged class is class 1, her method 1. -/
namespace start1
open Jvm.ClassFile
def u (s : String) : CpInfo := .utf8 (stringToUtf16 s)
/-- a pool by its gaps: so many unusable entries, then the entry; so many at the end -/
def gap : Nat → List CpInfo → List CpInfo
  | 0, r => r
  | n + 1, r => .unusable :: gap n r
def poolList (es : List (Nat × CpInfo)) (last : Nat) : List CpInfo := es.foldr (fun e r => gap e.1 (e.2 :: r)) (gap last [])
def pool (es : List (Nat × CpInfo)) (last : Nat) : Array CpInfo := ⟨poolList es last⟩
def fileOf (pool : Array CpInfo) (this : Nat) (attrs : Array Attribute := #[]) (ms : Array MethodInfo := #[]) (fl : Nat := 33) (sup : Nat := 0) (ifs : Array Nat := #[]) (fds : Array FieldInfo := #[]) : ClassFile where
  minorVersion := 0
  majorVersion := 65
  constantPool := pool
  accessFlags := fl
  thisClass := this
  superClass := sup
  interfaces := ifs
  fields := fds
  methods := ms
  attributes := attrs
def plain (name : String) (sup : Option ClassId) : Class where
  name := name
  kind := .ordinary
  loader := none
  accessFlags := 33
  super := sup
  interfaces := #[]
  cf := none
  fields := #[]
  methods := #[]
  instanceTypes := #[]
  staticTypes := #[]
  resolved := #[]
  callSites := []
  init := .initialized
  statics := none
  mirror := none

def pool0 : Array CpInfo := pool [(5, u "<init>"), (0, u "()V"), (1, .class_ 10), (1, u "java/lang/Object")] 113

def k0m0 : Method := { name := "<init>", desc := "()V", sig := { parameters := [], returnType := none }, accessFlags := 1, code := none }
/-- java/lang/Object -/
def k0 : Class := { plain "java/lang/Object" none with
  accessFlags := 33
  interfaces := #[]
  cf := some (fileOf pool0 8 #[] #[{ accessFlags := 1, nameIndex := 5, descriptorIndex := 6, attributes := #[] }] 33 0 #[] #[])
  fields := #[]
  methods := #[k0m0]
  instanceTypes := #[]
  staticTypes := #[]
  resolved := Array.replicate 124 none
  statics := none }

def pool1 : Array CpInfo := pool [(2, .class_ 4), (1, u "java/lang/Object"), (0, u "<init>"), (0, u "()V"), (0, .integer 2147483647), (0, .methodref 9 10), (0, .class_ 11), (0, .nameAndType 12 13), (0, u "com/example/murray_hill/murrayhill/store/RunStatusIsFinalPinLaw"), (0, u "pick"), (0, u "(I)Lcom/example/murray_hill/murrayhill/store/RunStatus;"), (0, .methodref 15 16), (0, .class_ 17), (0, .nameAndType 18 19), (0, u "com/example/murray_hill/murrayhill/store/RunStatus"), (0, u "isFinal"), (0, u "()Z"), (0, .fieldref 15 21), (0, .nameAndType 22 23), (0, u "QUEUED"), (0, u "Lcom/example/murray_hill/murrayhill/store/RunStatus;"), (0, .fieldref 15 25), (0, .nameAndType 26 23), (0, u "RUNNING"), (0, .fieldref 15 28), (0, .nameAndType 29 23), (0, u "RETRYING"), (0, .fieldref 15 31), (0, .nameAndType 32 23), (0, u "SUCCEEDED"), (0, .fieldref 15 34), (0, .nameAndType 35 23), (0, u "PARTIAL"), (0, .fieldref 15 37), (0, .nameAndType 38 23), (0, u "FAILED"), (0, .fieldref 15 40), (0, .nameAndType 41 23), (0, u "TIMED_OUT"), (0, .fieldref 15 43), (0, .nameAndType 44 23), (0, u "CANCELED"), (0, .fieldref 15 46), (0, .nameAndType 47 23), (0, u "INTERRUPTED"), (0, .fieldref 15 49), (0, .nameAndType 50 23), (0, u "SKIPPED"), (2, u "law"), (0, u "(I)Z")] 3

def k1m0 : Method := { name := "<init>", desc := "()V", sig := { parameters := [], returnType := none }, accessFlags := 1, code := none }
def k1c1 : Code := { maxStack := 2, maxLocals := 5, code := code, exceptionTable := #[], attributes := #[] }
def k1m1 : Method := { name := "law", desc := "(I)Z", sig := { parameters := [.int], returnType := some .boolean }, accessFlags := 9, code := some k1c1 }
def k1c2 : Code := { maxStack := 2, maxLocals := 1, code := method_3_code, exceptionTable := #[], attributes := #[] }
def k1m2 : Method := { name := "pick", desc := "(I)Lcom/example/murray_hill/murrayhill/store/RunStatus;", sig := { parameters := [.int], returnType := some (.object "com/example/murray_hill/murrayhill/store/RunStatus") }, accessFlags := 10, code := some k1c2 }
/-- com/example/murray_hill/murrayhill/store/RunStatusIsFinalPinLaw -/
def k1 : Class := { plain "com/example/murray_hill/murrayhill/store/RunStatusIsFinalPinLaw" (some 0) with
  accessFlags := 49
  interfaces := #[]
  cf := some (fileOf pool1 9 #[] #[{ accessFlags := 1, nameIndex := 5, descriptorIndex := 6, attributes := #[] }, { accessFlags := 9, nameIndex := 53, descriptorIndex := 54, attributes := #[] }, { accessFlags := 10, nameIndex := 12, descriptorIndex := 13, attributes := #[] }] 49 2 #[] #[])
  fields := #[]
  methods := #[k1m0, k1m1, k1m2]
  instanceTypes := #[]
  staticTypes := #[]
  resolved := Array.replicate 58 none
  statics := none }

def pool2 : Array CpInfo := pool [(1, .class_ 2), (0, u "java/lang/constant/Constable"), (0, .class_ 4), (0, u "java/lang/Object")] 6

/-- java/lang/constant/Constable -/
def k2 : Class := { plain "java/lang/constant/Constable" (some 0) with
  accessFlags := 1537
  interfaces := #[]
  cf := some (fileOf pool2 1 #[] #[] 1537 3 #[] #[])
  fields := #[]
  methods := #[]
  instanceTypes := #[]
  staticTypes := #[]
  resolved := Array.replicate 11 none
  statics := none }

def pool3 : Array CpInfo := pool [(1, .class_ 2), (0, u "java/lang/Comparable"), (0, .class_ 4), (0, u "java/lang/Object")] 7

/-- java/lang/Comparable -/
def k3 : Class := { plain "java/lang/Comparable" (some 0) with
  accessFlags := 1537
  interfaces := #[]
  cf := some (fileOf pool3 1 #[] #[] 1537 3 #[] #[])
  fields := #[]
  methods := #[]
  instanceTypes := #[]
  staticTypes := #[]
  resolved := Array.replicate 12 none
  statics := none }

def pool4 : Array CpInfo := pool [(1, .class_ 2), (0, u "java/io/Serializable"), (0, .class_ 4), (0, u "java/lang/Object")] 2

/-- java/io/Serializable -/
def k4 : Class := { plain "java/io/Serializable" (some 0) with
  accessFlags := 1537
  interfaces := #[]
  cf := some (fileOf pool4 1 #[] #[] 1537 3 #[] #[])
  fields := #[]
  methods := #[]
  instanceTypes := #[]
  staticTypes := #[]
  resolved := Array.replicate 7 none
  statics := none }

def pool5 : Array CpInfo := pool [(2, .class_ 4), (1, u "java/lang/Enum"), (0, u "name"), (0, u "Ljava/lang/String;"), (0, .fieldref 2 8), (0, .nameAndType 9 10), (0, u "ordinal"), (0, u "I"), (1, .class_ 14), (1, u "java/lang/Object"), (4, u "hash"), (86, .class_ 108), (1, u "java/lang/Enum$EnumDesc"), (2, .class_ 112), (0, u "java/lang/constant/Constable"), (0, .class_ 114), (0, u "java/lang/Comparable"), (0, .class_ 116), (0, u "java/io/Serializable"), (9, u "()I")] 77

def k5c0 : Code := { maxStack := 1, maxLocals := 1, code := jdk_37_method_2_code, exceptionTable := #[], attributes := #[] }
def k5m0 : Method := { name := "ordinal", desc := "()I", sig := { parameters := [], returnType := some .int }, accessFlags := 17, code := some k5c0 }
/-- java/lang/Enum -/
def k5 : Class := { plain "java/lang/Enum" (some 0) with
  accessFlags := 1057
  interfaces := #[2, 3, 4]
  cf := some (fileOf pool5 2 #[.nestMembers #[106]] #[{ accessFlags := 17, nameIndex := 9, descriptorIndex := 126, attributes := #[] }] 1057 12 #[111, 113, 115] #[{ accessFlags := 18, nameIndex := 5, descriptorIndex := 6, attributes := #[] }, { accessFlags := 18, nameIndex := 9, descriptorIndex := 10, attributes := #[] }, { accessFlags := 2, nameIndex := 19, descriptorIndex := 10, attributes := #[] }])
  fields := #[{ name := "name", type := (.object "java/lang/String"), accessFlags := 18, slot := 0, constantValue := 0 }, { name := "ordinal", type := .int, accessFlags := 18, slot := 1, constantValue := 0 }, { name := "hash", type := .int, accessFlags := 2, slot := 2, constantValue := 0 }]
  methods := #[k5m0]
  instanceTypes := #[(.object "java/lang/String"), .int, .int]
  staticTypes := #[]
  resolved := Array.replicate 204 none
  statics := none }

def pool6 : Array CpInfo := pool [(15, .class_ 16), (0, u "com/example/murray_hill/murrayhill/store/Labelled"), (30, .class_ 48), (0, u "java/lang/Object")] 26

/-- com/example/murray_hill/murrayhill/store/Labelled -/
def k6 : Class := { plain "com/example/murray_hill/murrayhill/store/Labelled" (some 0) with
  accessFlags := 1537
  interfaces := #[]
  cf := some (fileOf pool6 15 #[] #[] 1537 47 #[] #[])
  fields := #[]
  methods := #[]
  instanceTypes := #[]
  staticTypes := #[]
  resolved := Array.replicate 75 none
  statics := none }

def pool7 : Array CpInfo := pool [(1, .class_ 2), (0, u "com/example/murray_hill/murrayhill/store/RunStatus"), (2, u "QUEUED"), (0, u "Lcom/example/murray_hill/murrayhill/store/RunStatus;"), (2, u "RUNNING"), (2, u "RETRYING"), (2, u "SUCCEEDED"), (2, u "PARTIAL"), (2, u "FAILED"), (2, u "TIMED_OUT"), (2, u "CANCELED"), (2, u "INTERRUPTED"), (2, u "SKIPPED"), (2, u "$VALUES"), (0, u "[Lcom/example/murray_hill/murrayhill/store/RunStatus;"), (6, .class_ 46), (1, u "java/lang/Enum"), (8, u "label"), (0, u "Ljava/lang/String;"), (3, .class_ 62), (1, u "com/example/murray_hill/murrayhill/store/Labelled"), (2, .methodref 1 66), (0, .nameAndType 67 68), (0, u "ordinal"), (0, u "()I"), (49, u "isFinal"), (0, u "()Z")] 7

def k7c0 : Code := { maxStack := 4, maxLocals := 1, code := prog_56_method_5_code, exceptionTable := #[], attributes := #[] }
def k7m0 : Method := { name := "isFinal", desc := "()Z", sig := { parameters := [], returnType := some .boolean }, accessFlags := 1, code := some k7c0 }
/-- com/example/murray_hill/murrayhill/store/RunStatus -/
def k7 : Class := { plain "com/example/murray_hill/murrayhill/store/RunStatus" (some 5) with
  accessFlags := 16433
  interfaces := #[6]
  cf := some (fileOf pool7 1 #[] #[{ accessFlags := 1, nameIndex := 118, descriptorIndex := 119, attributes := #[] }] 16433 44 #[60] #[{ accessFlags := 16409, nameIndex := 5, descriptorIndex := 6, attributes := #[] }, { accessFlags := 16409, nameIndex := 9, descriptorIndex := 6, attributes := #[] }, { accessFlags := 16409, nameIndex := 12, descriptorIndex := 6, attributes := #[] }, { accessFlags := 16409, nameIndex := 15, descriptorIndex := 6, attributes := #[] }, { accessFlags := 16409, nameIndex := 18, descriptorIndex := 6, attributes := #[] }, { accessFlags := 16409, nameIndex := 21, descriptorIndex := 6, attributes := #[] }, { accessFlags := 16409, nameIndex := 24, descriptorIndex := 6, attributes := #[] }, { accessFlags := 16409, nameIndex := 27, descriptorIndex := 6, attributes := #[] }, { accessFlags := 16409, nameIndex := 30, descriptorIndex := 6, attributes := #[] }, { accessFlags := 16409, nameIndex := 33, descriptorIndex := 6, attributes := #[] }, { accessFlags := 18, nameIndex := 55, descriptorIndex := 56, attributes := #[] }, { accessFlags := 4122, nameIndex := 36, descriptorIndex := 37, attributes := #[] }])
  fields := #[{ name := "QUEUED", type := (.object "com/example/murray_hill/murrayhill/store/RunStatus"), accessFlags := 16409, slot := 0, constantValue := 0 }, { name := "RUNNING", type := (.object "com/example/murray_hill/murrayhill/store/RunStatus"), accessFlags := 16409, slot := 1, constantValue := 0 }, { name := "RETRYING", type := (.object "com/example/murray_hill/murrayhill/store/RunStatus"), accessFlags := 16409, slot := 2, constantValue := 0 }, { name := "SUCCEEDED", type := (.object "com/example/murray_hill/murrayhill/store/RunStatus"), accessFlags := 16409, slot := 3, constantValue := 0 }, { name := "PARTIAL", type := (.object "com/example/murray_hill/murrayhill/store/RunStatus"), accessFlags := 16409, slot := 4, constantValue := 0 }, { name := "FAILED", type := (.object "com/example/murray_hill/murrayhill/store/RunStatus"), accessFlags := 16409, slot := 5, constantValue := 0 }, { name := "TIMED_OUT", type := (.object "com/example/murray_hill/murrayhill/store/RunStatus"), accessFlags := 16409, slot := 6, constantValue := 0 }, { name := "CANCELED", type := (.object "com/example/murray_hill/murrayhill/store/RunStatus"), accessFlags := 16409, slot := 7, constantValue := 0 }, { name := "INTERRUPTED", type := (.object "com/example/murray_hill/murrayhill/store/RunStatus"), accessFlags := 16409, slot := 8, constantValue := 0 }, { name := "SKIPPED", type := (.object "com/example/murray_hill/murrayhill/store/RunStatus"), accessFlags := 16409, slot := 9, constantValue := 0 }, { name := "label", type := (.object "java/lang/String"), accessFlags := 18, slot := 3, constantValue := 0 }, { name := "$VALUES", type := (.array (.object "com/example/murray_hill/murrayhill/store/RunStatus")), accessFlags := 4122, slot := 10, constantValue := 0 }]
  methods := #[k7m0]
  instanceTypes := #[(.object "java/lang/String"), .int, .int, (.object "java/lang/String")]
  staticTypes := #[(.object "com/example/murray_hill/murrayhill/store/RunStatus"), (.object "com/example/murray_hill/murrayhill/store/RunStatus"), (.object "com/example/murray_hill/murrayhill/store/RunStatus"), (.object "com/example/murray_hill/murrayhill/store/RunStatus"), (.object "com/example/murray_hill/murrayhill/store/RunStatus"), (.object "com/example/murray_hill/murrayhill/store/RunStatus"), (.object "com/example/murray_hill/murrayhill/store/RunStatus"), (.object "com/example/murray_hill/murrayhill/store/RunStatus"), (.object "com/example/murray_hill/murrayhill/store/RunStatus"), (.object "com/example/murray_hill/murrayhill/store/RunStatus"), (.array (.object "com/example/murray_hill/murrayhill/store/RunStatus"))]
  resolved := Array.replicate 127 none
  statics := some 0 }

def pool8 : Array CpInfo := pool [(1, u "java/lang/Cloneable"), (0, .class_ 1), (0, u "java/lang/Object"), (0, .class_ 3)] 3

/-- java/lang/Cloneable -/
def k8 : Class := { plain "java/lang/Cloneable" (some 0) with
  accessFlags := 1537
  interfaces := #[]
  cf := some (fileOf pool8 2 #[] #[] 1537 4 #[] #[])
  fields := #[]
  methods := #[]
  instanceTypes := #[]
  staticTypes := #[]
  resolved := Array.replicate 8 none
  statics := none }

/-- the primitive byte -/
def k9 : Class := { plain "byte" none with kind := .primitive 'B', accessFlags := 0x411 }
/-- [B -/
def k10 : Class := { plain "[B" (some 0) with kind := .array 9 .byte, interfaces := #[8, 4], accessFlags := 1041 }

/-- the primitive int -/
def k11 : Class := { plain "int" none with kind := .primitive 'I', accessFlags := 0x411 }
/-- [I -/
def k12 : Class := { plain "[I" (some 0) with kind := .array 11 .int, interfaces := #[8, 4], accessFlags := 1041 }

def heap : Heap := #[{ cls := 7, slots := #[.ref 1, .ref 3, .ref 6, .ref 2, .ref 4, .ref 9, .ref 10, .ref 5, .ref 7, .ref 8, .null], vm := .statics 7 },
  { cls := 7, slots := #[.null, .int 0, .int 0, .null], vm := .none },
  { cls := 7, slots := #[.null, .int 3, .int 0, .null], vm := .none },
  { cls := 7, slots := #[.null, .int 1, .int 0, .null], vm := .none },
  { cls := 7, slots := #[.null, .int 4, .int 0, .null], vm := .none },
  { cls := 7, slots := #[.null, .int 7, .int 0, .null], vm := .none },
  { cls := 7, slots := #[.null, .int 2, .int 0, .null], vm := .none },
  { cls := 7, slots := #[.null, .int 8, .int 0, .null], vm := .none },
  { cls := 7, slots := #[.null, .int 9, .int 0, .null], vm := .none },
  { cls := 7, slots := #[.null, .int 5, .int 0, .null], vm := .none },
  { cls := 7, slots := #[.null, .int 6, .int 0, .null], vm := .none }]
def classes : Array Class := #[k0, k1, k2, k3, k4, k5, k6, k7, k8, k9, k10, k11, k12]
def interned : List (Array UInt16 × Addr) := []
def slotsUsed : Nat := 51
def theMethod : MethodId := ⟨1, 1⟩
def args0 : Array Value := #[.int 5]
def aboutOver (below : List Frame) : State where
  vm := { classes := classes, interned := interned.toArray }
  heap := heap
  slotsUsed := slotsUsed
  threads := #[{ frames := .invoking theMethod args0 :: below }]
def below0 : List Frame := [.native { method := ⟨0, 0⟩, args := #[] }]
def about1 : State := aboutOver below0
def p0 : Program := .bare "" "" ""
def e0 : Env := launch0.env 0 0 0
theorem w_frames : about1.frames = Frame.invoking theMethod args0 :: below0 := rfl
set_option maxRecDepth 65536 in
theorem w_args : argsFit about1.vm theMethod args0 = true := by decide +kernel
set_option maxRecDepth 65536 in
theorem w_heap : heapFits about1 = true := by decide +kernel
set_option maxRecDepth 65536 in
theorem w_runnable : about1.curStatus? = some .runnable := by decide +kernel
set_option maxRecDepth 65536 in
theorem w_alone : about1.alone = true := by decide +kernel
set_option maxRecDepth 65536 in
theorem w_named : about1.methodNamed? x = some theMethod := by decide +kernel
set_option maxRecDepth 65536 in
theorem w_hears : about1.hears theMethod below0 = true := by decide +kernel
set_option maxRecDepth 65536 in
theorem w_ripe : about1.ripe theMethod args0 below0 = true := by decide +kernel
theorem w_running : about1.status = .running := rfl
set_option maxRecDepth 65536 in
theorem w_room : about1.hasRoom e0.platform room_1 = true :=
  launch0.hasRoom_least _ room_1 (by decide +kernel) (by decide +kernel) (by decide +kernel) (by decide +kernel) (by decide +kernel) (by decide +kernel)
theorem allAtoms_all (ts : List Jvm.Cond) (a : Array Jvm.Value) (st : Jvm.State) : (allAtoms ts).before a st = ts.all (fun c => c.before a st) := by
  induction ts with
  | nil => rfl
  | cons c t ih =>
    show (Jvm.Cond.and c (allAtoms t)).before a st = _
    rw [Jvm.Cond.before_and, ih, List.all_cons]
def words1 : List Jvm.Cond := Jvm.Cond.code x code maxLocals ret :: tables_1
/-- a 'code' word, met by the world's own term for the bytes: nothing is compared byte by byte -/
theorem code_word {y : MethodName} {bytes : ByteArray} {mx : Nat} {rt : Option FieldType} {a : Array Value} {s : State} {m : MethodId} {meth : Method} {c : Code} (h1 : s.methodNamed? y = some m) (h2 : s.vm.method? m = some meth) (h3 : meth.code = some c) (h4 : c.code = bytes)
    (h5 : (c.maxLocals == mx && c.exceptionTable.isEmpty && decide (c.maxStack ≤ mostOperands) && decide (meth.sig.returnType = rt) && !meth.locks && decide (parseMethodDescriptor y.desc = some meth.sig)) = true) : (Jvm.Cond.code y bytes mx rt).before a s = true := by
  simp only [Bool.and_eq_true, beq_iff_eq, Bool.not_eq_true', decide_eq_true_eq] at h5
  obtain ⟨⟨⟨⟨⟨g1, g2⟩, g3⟩, g4⟩, g5⟩, g6⟩ := h5
  simp [Cond.before, Cond.holds, Cond.value, h1, h2, h3, h4, g1, g2, g3, g4, g5, g6]
def isCode : Jvm.Cond → Bool
  | .code _ _ _ _ => true
  | _ => false
theorem all_split {L : List Jvm.Cond} {P : Jvm.Cond → Bool} (h1 : L.all (fun c => isCode c || P c) = true) (h2 : ∀ c ∈ L.filter isCode, P c = true) : L.all P = true := by
  refine List.all_eq_true.mpr fun c hc => ?_
  have h := List.all_eq_true.mp h1 c hc
  rcases Bool.eq_false_or_eq_true (isCode c) with hi | hi
  · exact h2 c (List.mem_filter.mpr ⟨hc, hi⟩)
  · simpa [hi] using h
set_option maxRecDepth 65536 in
theorem w_c0 : (Jvm.Cond.code x code maxLocals ret).before args0 about1 = true := code_word (m := ⟨1, 1⟩) (meth := k1m1) (c := k1c1) (by decide +kernel) rfl rfl rfl (by decide +kernel)
set_option maxRecDepth 65536 in
theorem w_c1 : (Jvm.Cond.code ({ cls := "com/example/murray_hill/murrayhill/store/RunStatusIsFinalPinLaw", name := "pick", desc := "(I)Lcom/example/murray_hill/murrayhill/store/RunStatus;" } : Jvm.MethodName) method_3_code (1 : Nat) (Option.some (Jvm.ClassFile.FieldType.object "com/example/murray_hill/murrayhill/store/RunStatus"))).before args0 about1 = true := code_word (m := ⟨1, 2⟩) (meth := k1m2) (c := k1c2) (by decide +kernel) rfl rfl rfl (by decide +kernel)
set_option maxRecDepth 65536 in
theorem w_c2 : (Jvm.Cond.code ({ cls := "com/example/murray_hill/murrayhill/store/RunStatus", name := "isFinal", desc := "()Z" } : Jvm.MethodName) prog_56_method_5_code (1 : Nat) (Option.some Jvm.ClassFile.FieldType.boolean)).before args0 about1 = true := code_word (m := ⟨7, 0⟩) (meth := k7m0) (c := k7c0) (by decide +kernel) rfl rfl rfl (by decide +kernel)
set_option maxRecDepth 65536 in
theorem w_c3 : (Jvm.Cond.code ({ cls := "java/lang/Enum", name := "ordinal", desc := "()I" } : Jvm.MethodName) jdk_37_method_2_code (1 : Nat) (Option.some Jvm.ClassFile.FieldType.int)).before args0 about1 = true := code_word (m := ⟨5, 0⟩) (meth := k5m0) (c := k5c0) (by decide +kernel) rfl rfl rfl (by decide +kernel)
def codes1 : List Jvm.Cond := [Jvm.Cond.code x code maxLocals ret, Jvm.Cond.code ({ cls := "com/example/murray_hill/murrayhill/store/RunStatusIsFinalPinLaw", name := "pick", desc := "(I)Lcom/example/murray_hill/murrayhill/store/RunStatus;" } : Jvm.MethodName) method_3_code (1 : Nat) (Option.some (Jvm.ClassFile.FieldType.object "com/example/murray_hill/murrayhill/store/RunStatus")), Jvm.Cond.code ({ cls := "com/example/murray_hill/murrayhill/store/RunStatus", name := "isFinal", desc := "()Z" } : Jvm.MethodName) prog_56_method_5_code (1 : Nat) (Option.some Jvm.ClassFile.FieldType.boolean), Jvm.Cond.code ({ cls := "java/lang/Enum", name := "ordinal", desc := "()I" } : Jvm.MethodName) jdk_37_method_2_code (1 : Nat) (Option.some Jvm.ClassFile.FieldType.int)]
set_option maxRecDepth 65536 in
theorem codes_eq : words1.filter isCode = codes1 := rfl
theorem w_codes : ∀ c ∈ words1.filter isCode, c.before args0 about1 = true := by
  rw [codes_eq]
  intro c hc
  simp only [codes1, List.mem_cons, List.not_mem_nil, or_false] at hc
  rcases hc with rfl | rfl | rfl | rfl
  · exact w_c0
  · exact w_c1
  · exact w_c2
  · exact w_c3
set_option maxRecDepth 65536 in
theorem w_t1 : (words1.take 24).all (fun c => isCode c || c.before args0 about1) = true := by decide +kernel
set_option maxRecDepth 65536 in
theorem w_t2 : (words1.drop 24).all (fun c => isCode c || c.before args0 about1) = true := by decide +kernel
theorem w_tables : (allAtoms (Jvm.Cond.code x code maxLocals ret :: tables_1)).before args0 about1 = true := by
  rw [allAtoms_all]
  show words1.all (fun c => c.before args0 about1) = true
  refine all_split ?_ w_codes
  rw [← List.take_append_drop 24 words1, List.all_append, w_t1, w_t2]
  rfl
set_option maxRecDepth 65536 in
theorem w_case : (Jvm.Cond.and given_1 narrow_1).before args0 about1 = true := by decide +kernel
theorem w_applies : (headSpec (Jvm.Cond.code x code maxLocals ret :: tables_1) room_1).applies x e0.platform about1 = true :=
  (Spec.applies_iff w_frames).mpr ⟨w_running, w_runnable, w_alone, w_named, w_hears, w_ripe, w_room, w_tables⟩
theorem atStart : AtStart classFile x code maxLocals ret World_1 tables_1 room_1 Calls_1 rest_1 Pre_1 launch0 p0 e0 about1 theMethod args0 below0 :=
  ⟨lists_1, trivial, launch0.admits_env _ _ _, launch0.least_env, fairChoices_fair.cas, fairChoices_fair.clock, w_frames, w_args, w_heap, w_applies, trivial, trivial, w_case⟩
end start1
theorem witness_1 : WitnessClaimed_1 := ⟨start1.p0, start1.e0, start1.about1, start1.theMethod, start1.args0, start1.below0, start1.atStart⟩
end Jvm.Pilot.@@N@@
