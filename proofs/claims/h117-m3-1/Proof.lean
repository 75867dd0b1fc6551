import JvmDerived
import JvmDerived.Pilot.@@N@@Statement
import JvmDerived.Pilot.@@N@@Code
set_option linter.unusedVariables false
set_option linter.unusedSimpArgs false
@@BLOCK:NumsL.lean.txt@@
namespace Jvm.Pilot.@@N@@
open Jvm Jvm.ClassFile Sem Op Lib Jvm.Free Jvm.Stand Jvm.LawKit Jvm.RoadKit Bundle Jvm.Pilot.@@N@@.Jvm.D
/-- two roads that come together: the rest is shown once, for every state and value with which they come -/
theorem own_join {p : Program} {l : Launch} {e : Env} {R : Room} {s : State} {m : MethodId} {args : Array Value} {below : List Frame} {meth : Method} {c : Code} {T : State} {locs : List Loc} {cells slots : Nat} {A : State} {P : State → Outcome → Prop}
    (X : Stand p l e R s m args below meth c T locs cells slots) {ι : Type} (Φ : ι → State → Prop) (B : ι → JFrame)
    (rest : ∀ i T', Stand p l e R s m args below meth c T' locs cells slots → Φ i T' → ∃ s₂ o, Steps p.tables e below (T'.setTop (B i)) s₂ ∧ P s₂ o)
    (come : (∀ i T', Stand p l e R s m args below meth c T' locs cells slots → Φ i T' → ∃ s₂ o, Steps p.tables e below (T'.setTop (B i)) s₂ ∧ P s₂ o) → ∃ s₂ o, Steps p.tables e below A s₂ ∧ P s₂ o) : ∃ s₂ o, Steps p.tables e below A s₂ ∧ P s₂ o := come rest
theorem own_joinH {p : Program} {l : Launch} {e : Env} {R : Room} {s : State} {m : MethodId} {args : Array Value} {below : List Frame} {meth : Method} {c : Code} {T : State} {locs : List Loc} {cells slots n0 : Nat} {A : State} {P : State → Outcome → Prop}
    (X : Stand p l e R s m args below meth c T locs cells slots) (N : Fr n0 locs) {ι : Type} (cells' slots' : Nat) (Φ : ι → Heap → Prop) (B : ι → JFrame)
    (rest : ∀ i T' locs', Stand p l e R s m args below meth c T' locs' cells' slots' → Fr n0 locs' → Φ i T'.heap → ∃ s₂ o, Steps p.tables e below (T'.setTop (B i)) s₂ ∧ P s₂ o)
    (come : (∀ i T' locs', Stand p l e R s m args below meth c T' locs' cells' slots' → Fr n0 locs' → Φ i T'.heap → ∃ s₂ o, Steps p.tables e below (T'.setTop (B i)) s₂ ∧ P s₂ o) → ∃ s₂ o, Steps p.tables e below A s₂ ∧ P s₂ o) : ∃ s₂ o, Steps p.tables e below A s₂ ∧ P s₂ o := come rest
theorem own_mono {p : Program} {l : Launch} {e : Env} {R : Room} {s : State} {m : MethodId} {args : Array Value} {below : List Frame} {meth : Method} {c : Code} {T : State} {locs : List Loc} {cells slots cells' slots' : Nat}
    (X : Stand p l e R s m args below meth c T locs cells slots) (h1 : cells ≤ cells') (h2 : slots ≤ slots') : Stand p l e R s m args below meth c T locs cells' slots' := { X with same := X.same.mono h1 h2 }
theorem own_sta_keep {Z : State} {h h' : Heap} {C n d : String} {v : Value} {ws : List Addr} (F : Sta Z h C n d v) (K : Keep h h' ws) (q : ∀ x ∈ ws, ∀ c : Cell, h[x]? = some c → c.vm.isStatics = false) : Sta Z h' C n d v := by
  obtain ⟨cf, i, k, f, st, cell, h1, h2, h3, h4, h5, h6, h7⟩ := F
  refine ⟨cf, i, k, f, st, cell, h1, h2, h3, h4, K.2.1 st cell h5 fun hm => ?_, h6, h7⟩
  rw [q st hm cell h5] at h6
  cases h6
theorem own_plain_E {Z : State} {h : Heap} {a : Addr} {C : String} (F : Exa Z h a C) : ∀ c : Cell, h[a]? = some c → c.vm.isStatics = false := by
  obtain ⟨cell, k, h1, h2, h3, h4, h5⟩ := F
  intro c hc
  cases h1.symm.trans hc
  exact h4
theorem own_plain_V {Z : State} {h : Heap} {a : Addr} {k : ClassId} {ty : FieldType} {n : Int32} {vs : List Value} {d : Value} (F : Arv Z h a k ty n vs d) : ∀ c : Cell, h[a]? = some c → c.vm.isStatics = false := by
  obtain ⟨cell, A, -⟩ := F
  intro c hc
  cases A.1.symm.trans hc
  exact A.plain
/-- a stretch of the road, then the rest -/
theorem own_go {tb : Tables} {e : Env} {below : List Frame} {A B : State} {P : State → Outcome → Prop} (h : ∀ t, Steps tb e below B t → Steps tb e below A t) (k : ∃ s₂ o, Steps tb e below B s₂ ∧ P s₂ o) : ∃ s₂ o, Steps tb e below A s₂ ∧ P s₂ o := by
  obtain ⟨s₂, o, h1, h2⟩ := k
  exact ⟨s₂, o, h s₂ h1, h2⟩
theorem own_eqI {args : Array Value} {first s : State} {o : Option Outcome} {idx : List Nat} {t : Term} {k : Int32} (h : (Jvm.Cond.eq t (.int k)).value args first o s idx = some true) : t.eval args first o idx s = some (.int k) := by
  simp only [Jvm.Cond.value, Term.eval] at h
  cases ht : t.eval args first o idx s with
  | none => simp [ht] at h
  | some x => cases x <;> simp [ht] at h ⊢; exact h
theorem own_eqJ {args : Array Value} {first s : State} {o : Option Outcome} {idx : List Nat} {t : Term} {k : Int64} (h : (Jvm.Cond.eq t (.long k)).value args first o s idx = some true) : t.eval args first o idx s = some (.long k) := by
  simp only [Jvm.Cond.value, Term.eval] at h
  cases ht : t.eval args first o idx s with
  | none => simp [ht] at h
  | some x => cases x <;> simp [ht] at h ⊢; exact h
theorem own_eqR {args : Array Value} {first s : State} {o : Option Outcome} {idx : List Nat} {t u : Term} {a : Addr} (h : (Jvm.Cond.eq t u).value args first o s idx = some true) (hu : u.eval args first o idx s = some (.ref a)) : t.eval args first o idx s = some (.ref a) := by
  simp only [Jvm.Cond.value] at h
  cases ht : t.eval args first o idx s with
  | none => simp [ht] at h
  | some x => cases x <;> simp [ht, hu] at h ⊢; exact h
theorem own_mod7 (x : Int32) : (x &&& (2147483647 : Int32)) % (7 : Int32) = (0 : Int32) ∨ (x &&& (2147483647 : Int32)) % (7 : Int32) = (1 : Int32) ∨ (x &&& (2147483647 : Int32)) % (7 : Int32) = (2 : Int32) ∨ (x &&& (2147483647 : Int32)) % (7 : Int32) = (3 : Int32) ∨ (x &&& (2147483647 : Int32)) % (7 : Int32) = (4 : Int32) ∨ (x &&& (2147483647 : Int32)) % (7 : Int32) = (5 : Int32) ∨ (x &&& (2147483647 : Int32)) % (7 : Int32) = (6 : Int32) := by
  have hm : (x &&& (2147483647 : Int32)).toInt = x.toInt % 2 ^ 31 := Jvm.Kit.i32_mask x 2147483647 (k := 31) (by decide) (by decide)
  have h : ((x &&& (2147483647 : Int32)) % (7 : Int32)).toInt = (x.toInt % 2 ^ 31) % 7 := by
    rw [Int32.toInt_mod, hm]
    exact Int.tmod_eq_emod_of_nonneg (by omega)
  simp only [← Int32.toInt_inj, h, Int32.reduceToInt]
  omega
theorem ef_1_0 (m : MethodId)  : entryFrame m #[(.int (0 : Int32))] 1 = mkF m 0 #[.val (.int (0 : Int32))] [] := by first | (simp [entryFrame, mkF, argsToLocals, Value.category]; done) | rfl
theorem pn_1 : plainName "com/example/sickle_cut/sicklecut/rules/SideOwningPinLaw" = true := by first | (simp [plainName, overriddenIn]; done) | decide +kernel
abbrev LS_I (a0 : Int32) : Array Slot := #[.val (.int a0)]
theorem d1_0 : decode method_2_code 0 = .ok (.iload_n 0, 1) := by decide +kernel
theorem d1_1 : decode method_2_code 1 = .ok (.ifCond .ne 7, 3) := by decide +kernel
theorem d1_4 : decode method_2_code 4 = .ok (.getstatic 7, 3) := by decide +kernel
theorem d1_7 : decode method_2_code 7 = .ok (.areturn, 1) := by decide +kernel
def Q1_0 (Z : State) (w0 : Addr) (h0 : Heap) (n0 : Nat) (v : Option Value) (h : Heap) (L : List Loc) : Prop := v = some (.ref w0) ∧ Fr n0 L ∧ h = h0
set_option maxRecDepth 65536 in
set_option maxHeartbeats 40000000 in
theorem rm1_0 (l : Launch) (Z : State) (a0 : Array Value) (hw : ∀ d ∈ tables_1, d.before a0 Z = true) (ws : List Jvm.Cond) (w0 : Addr) (h0 : Heap) (n0 : Nat) (Z0 : n0 ≤ h0.size) (S0 : Sta Z h0 "com/example/sickle_cut/sicklecut/map/Country" "BE" "Lcom/example/sickle_cut/sicklecut/map/Country;" (.ref w0)) :
    MetFree l (⟨"com/example/sickle_cut/sicklecut/rules/SideOwningPinLaw", "pick", "(I)Lcom/example/sickle_cut/sicklecut/map/Country;"⟩ : MethodName) (head1 (Jvm.Cond.code (⟨"com/example/sickle_cut/sicklecut/rules/SideOwningPinLaw", "pick", "(I)Lcom/example/sickle_cut/sicklecut/map/Country;"⟩ : MethodName) method_2_code 1 (some (.object "com/example/sickle_cut/sicklecut/map/Country")) :: ws) ({ frames := 0, cells := 0, slots := 0, locals := 0 } : Room)) (fun a U => a = #[(.int (0 : Int32))] ∧ Z.Warmed39 U.vm ∧ U.heap = h0) (fun _ _ _ _ _ => True) (fun _ U o U' => ∃ v L, o = .returned v ∧ Q1_0 Z w0 h0 n0 v U'.heap L ∧ FrameEnd U o U' L ({ frames := 0, cells := 0, slots := 0, locals := 0 } : Room).cells ({ frames := 0, cells := 0, slots := 0, locals := 0 } : Room).slots) := by
  refine MetFree.of_bodySF (plainFor_of_name pn_1) hisR ?_
  intro p e s m args below meth c s₁ Bd hml0 hP hK
  obtain ⟨rfl, hZ, hh⟩ := hP
  have hx := Bd.exec
  have hby := Bd.bytes
  have hml : c.maxLocals = 1 := hml0
  have hown : s.vm.findClass "com/example/sickle_cut/sicklecut/rules/SideOwningPinLaw" = some m.cls := findClass_of_methodNamed Bd.named
  have hnm := (name_of_methodNamed Bd.named Bd.method).1
  have X0 : Stand p l e ({ frames := 0, cells := 0, slots := 0, locals := 0 } : Room) s m #[(.int (0 : Int32))] below meth c s₁ [] 0 0 := Stand.of_body Bd
  have e0 : s₁.heap = h0 := by rw [← hh, Bd.state]; rfl
  have N0 := Fr.nil n0
  refine own_go (B := s₁.setTop (mkF m 0 (LS_I (0 : Int32)) [])) (fun t k => castTop (ef_1_0 m ) k) ?_
  refine own_go (B := s₁.setTop (mkF m 4 (LS_I (0 : Int32)) [])) (fun t k => ?_) ?_
  · show Steps p.tables e below (s₁.setTop (mkF m 0 (LS_I (0 : Int32)) [])) _
    refine XS.iloadN X0.here hx rfl (hb hby d1_0) rfl ?_
    show Steps p.tables e below (s₁.setTop (mkF m 1 (LS_I (0 : Int32)) [(.int (0 : Int32))])) _
    refine XS.ifNo X0.here hx rfl (hb hby d1_1) rfl ((if0 _ _).trans (teq (by decide : (0 : Int32) = (0 : Int32))).2) ?_
    exact k
  obtain ⟨T1, X1, e1, st1⟩ := getS2 X0 hx hZ hown (host := "") (Or.inl (hw _ (List.mem_of_getElem? (i := 5) rfl))) Via.refl e0 S0 (g := (mkF m 4 (LS_I (0 : Int32)) [])) rfl (hb hby d1_4)
  refine own_go (B := T1.setTop (mkF m 7 (LS_I (0 : Int32)) [(.ref w0)])) (fun t k => st1 _ k) ?_
  obtain ⟨fs, hr, hrun, hended, hW, hsame⟩ := X1.leave (v := some (.ref w0)) (fun h => by rw [Bd.returns] at h; cases h)
  refine ⟨_, _, ?_, hrun, hended, _, _, rfl, ?_, ⟨_, rfl⟩, hW, hsame.mono (by decide) (by decide)⟩
  · show Steps p.tables e below (T1.setTop (mkF m 7 (LS_I (0 : Int32)) [(.ref w0)])) _
    exact retOut X1 hx Bd.returns rfl (Or.inr (Or.inr (Or.inr (Or.inr ⟨rfl, rfl, rfl⟩)))) (hb hby d1_7) hr
  · show Q1_0 Z w0 h0 n0 _ T1.heap _
    rw [e1]
    exact ⟨rfl, N0, rfl⟩
theorem ef_1_1 (m : MethodId)  : entryFrame m #[(.int (1 : Int32))] 1 = mkF m 0 #[.val (.int (1 : Int32))] [] := by first | (simp [entryFrame, mkF, argsToLocals, Value.category]; done) | rfl
theorem d1_8 : decode method_2_code 8 = .ok (.iload_n 0, 1) := by decide +kernel
theorem d1_9 : decode method_2_code 9 = .ok (.iconst 1, 1) := by decide +kernel
theorem d1_10 : decode method_2_code 10 = .ok (.if_icmp .ne 7, 3) := by decide +kernel
theorem d1_13 : decode method_2_code 13 = .ok (.getstatic 13, 3) := by decide +kernel
theorem d1_16 : decode method_2_code 16 = .ok (.areturn, 1) := by decide +kernel
def Q1_1 (Z : State) (w0 : Addr) (h0 : Heap) (n0 : Nat) (v : Option Value) (h : Heap) (L : List Loc) : Prop := v = some (.ref w0) ∧ Fr n0 L ∧ h = h0
set_option maxRecDepth 65536 in
set_option maxHeartbeats 40000000 in
theorem rm1_1 (l : Launch) (Z : State) (a0 : Array Value) (hw : ∀ d ∈ tables_1, d.before a0 Z = true) (ws : List Jvm.Cond) (w0 : Addr) (h0 : Heap) (n0 : Nat) (Z0 : n0 ≤ h0.size) (S0 : Sta Z h0 "com/example/sickle_cut/sicklecut/map/Country" "CH" "Lcom/example/sickle_cut/sicklecut/map/Country;" (.ref w0)) :
    MetFree l (⟨"com/example/sickle_cut/sicklecut/rules/SideOwningPinLaw", "pick", "(I)Lcom/example/sickle_cut/sicklecut/map/Country;"⟩ : MethodName) (head1 (Jvm.Cond.code (⟨"com/example/sickle_cut/sicklecut/rules/SideOwningPinLaw", "pick", "(I)Lcom/example/sickle_cut/sicklecut/map/Country;"⟩ : MethodName) method_2_code 1 (some (.object "com/example/sickle_cut/sicklecut/map/Country")) :: ws) ({ frames := 0, cells := 0, slots := 0, locals := 0 } : Room)) (fun a U => a = #[(.int (1 : Int32))] ∧ Z.Warmed39 U.vm ∧ U.heap = h0) (fun _ _ _ _ _ => True) (fun _ U o U' => ∃ v L, o = .returned v ∧ Q1_1 Z w0 h0 n0 v U'.heap L ∧ FrameEnd U o U' L ({ frames := 0, cells := 0, slots := 0, locals := 0 } : Room).cells ({ frames := 0, cells := 0, slots := 0, locals := 0 } : Room).slots) := by
  refine MetFree.of_bodySF (plainFor_of_name pn_1) hisR ?_
  intro p e s m args below meth c s₁ Bd hml0 hP hK
  obtain ⟨rfl, hZ, hh⟩ := hP
  have hx := Bd.exec
  have hby := Bd.bytes
  have hml : c.maxLocals = 1 := hml0
  have hown : s.vm.findClass "com/example/sickle_cut/sicklecut/rules/SideOwningPinLaw" = some m.cls := findClass_of_methodNamed Bd.named
  have hnm := (name_of_methodNamed Bd.named Bd.method).1
  have X0 : Stand p l e ({ frames := 0, cells := 0, slots := 0, locals := 0 } : Room) s m #[(.int (1 : Int32))] below meth c s₁ [] 0 0 := Stand.of_body Bd
  have e0 : s₁.heap = h0 := by rw [← hh, Bd.state]; rfl
  have N0 := Fr.nil n0
  refine own_go (B := s₁.setTop (mkF m 0 (LS_I (1 : Int32)) [])) (fun t k => castTop (ef_1_1 m ) k) ?_
  refine own_go (B := s₁.setTop (mkF m 13 (LS_I (1 : Int32)) [])) (fun t k => ?_) ?_
  · show Steps p.tables e below (s₁.setTop (mkF m 0 (LS_I (1 : Int32)) [])) _
    refine XS.iloadN X0.here hx rfl (hb hby d1_0) rfl ?_
    show Steps p.tables e below (s₁.setTop (mkF m 1 (LS_I (1 : Int32)) [(.int (1 : Int32))])) _
    refine XS.ifYes X0.here hx rfl (pc0 := 1) (pc' := 8) rfl (hb hby d1_1) rfl ((if0 _ _).trans (feq (by decide : ¬ ((1 : Int32) = (0 : Int32)))).2) (by decide) (by decide) ?_
    show Steps p.tables e below (s₁.setTop (mkF m 8 (LS_I (1 : Int32)) [])) _
    refine XS.iloadN X0.here hx rfl (hb hby d1_8) rfl ?_
    show Steps p.tables e below (s₁.setTop (mkF m 9 (LS_I (1 : Int32)) [(.int (1 : Int32))])) _
    refine XS.iconst X0.here hx rfl (hb hby d1_9) ?_
    show Steps p.tables e below (s₁.setTop (mkF m 10 (LS_I (1 : Int32)) [(.int (1 : Int32)), (.int (1 : Int32))])) _
    refine XS.icmpNo X0.here hx rfl (hb hby d1_10) rfl (teq (by decide : (1 : Int32) = (1 : Int32))).2 ?_
    exact k
  obtain ⟨T1, X1, e1, st1⟩ := getS2 X0 hx hZ hown (host := "") (Or.inl (hw _ (List.mem_of_getElem? (i := 29) rfl))) Via.refl e0 S0 (g := (mkF m 13 (LS_I (1 : Int32)) [])) rfl (hb hby d1_13)
  refine own_go (B := T1.setTop (mkF m 16 (LS_I (1 : Int32)) [(.ref w0)])) (fun t k => st1 _ k) ?_
  obtain ⟨fs, hr, hrun, hended, hW, hsame⟩ := X1.leave (v := some (.ref w0)) (fun h => by rw [Bd.returns] at h; cases h)
  refine ⟨_, _, ?_, hrun, hended, _, _, rfl, ?_, ⟨_, rfl⟩, hW, hsame.mono (by decide) (by decide)⟩
  · show Steps p.tables e below (T1.setTop (mkF m 16 (LS_I (1 : Int32)) [(.ref w0)])) _
    exact retOut X1 hx Bd.returns rfl (Or.inr (Or.inr (Or.inr (Or.inr ⟨rfl, rfl, rfl⟩)))) (hb hby d1_16) hr
  · show Q1_1 Z w0 h0 n0 _ T1.heap _
    rw [e1]
    exact ⟨rfl, N0, rfl⟩
theorem ef_1_2 (m : MethodId)  : entryFrame m #[(.int (2 : Int32))] 1 = mkF m 0 #[.val (.int (2 : Int32))] [] := by first | (simp [entryFrame, mkF, argsToLocals, Value.category]; done) | rfl
theorem d1_17 : decode method_2_code 17 = .ok (.iload_n 0, 1) := by decide +kernel
theorem d1_18 : decode method_2_code 18 = .ok (.iconst 2, 1) := by decide +kernel
theorem d1_19 : decode method_2_code 19 = .ok (.if_icmp .ne 7, 3) := by decide +kernel
theorem d1_22 : decode method_2_code 22 = .ok (.getstatic 16, 3) := by decide +kernel
theorem d1_25 : decode method_2_code 25 = .ok (.areturn, 1) := by decide +kernel
def Q1_2 (Z : State) (w0 : Addr) (h0 : Heap) (n0 : Nat) (v : Option Value) (h : Heap) (L : List Loc) : Prop := v = some (.ref w0) ∧ Fr n0 L ∧ h = h0
set_option maxRecDepth 65536 in
set_option maxHeartbeats 40000000 in
theorem rm1_2 (l : Launch) (Z : State) (a0 : Array Value) (hw : ∀ d ∈ tables_1, d.before a0 Z = true) (ws : List Jvm.Cond) (w0 : Addr) (h0 : Heap) (n0 : Nat) (Z0 : n0 ≤ h0.size) (S0 : Sta Z h0 "com/example/sickle_cut/sicklecut/map/Country" "DE" "Lcom/example/sickle_cut/sicklecut/map/Country;" (.ref w0)) :
    MetFree l (⟨"com/example/sickle_cut/sicklecut/rules/SideOwningPinLaw", "pick", "(I)Lcom/example/sickle_cut/sicklecut/map/Country;"⟩ : MethodName) (head1 (Jvm.Cond.code (⟨"com/example/sickle_cut/sicklecut/rules/SideOwningPinLaw", "pick", "(I)Lcom/example/sickle_cut/sicklecut/map/Country;"⟩ : MethodName) method_2_code 1 (some (.object "com/example/sickle_cut/sicklecut/map/Country")) :: ws) ({ frames := 0, cells := 0, slots := 0, locals := 0 } : Room)) (fun a U => a = #[(.int (2 : Int32))] ∧ Z.Warmed39 U.vm ∧ U.heap = h0) (fun _ _ _ _ _ => True) (fun _ U o U' => ∃ v L, o = .returned v ∧ Q1_2 Z w0 h0 n0 v U'.heap L ∧ FrameEnd U o U' L ({ frames := 0, cells := 0, slots := 0, locals := 0 } : Room).cells ({ frames := 0, cells := 0, slots := 0, locals := 0 } : Room).slots) := by
  refine MetFree.of_bodySF (plainFor_of_name pn_1) hisR ?_
  intro p e s m args below meth c s₁ Bd hml0 hP hK
  obtain ⟨rfl, hZ, hh⟩ := hP
  have hx := Bd.exec
  have hby := Bd.bytes
  have hml : c.maxLocals = 1 := hml0
  have hown : s.vm.findClass "com/example/sickle_cut/sicklecut/rules/SideOwningPinLaw" = some m.cls := findClass_of_methodNamed Bd.named
  have hnm := (name_of_methodNamed Bd.named Bd.method).1
  have X0 : Stand p l e ({ frames := 0, cells := 0, slots := 0, locals := 0 } : Room) s m #[(.int (2 : Int32))] below meth c s₁ [] 0 0 := Stand.of_body Bd
  have e0 : s₁.heap = h0 := by rw [← hh, Bd.state]; rfl
  have N0 := Fr.nil n0
  refine own_go (B := s₁.setTop (mkF m 0 (LS_I (2 : Int32)) [])) (fun t k => castTop (ef_1_2 m ) k) ?_
  refine own_go (B := s₁.setTop (mkF m 22 (LS_I (2 : Int32)) [])) (fun t k => ?_) ?_
  · show Steps p.tables e below (s₁.setTop (mkF m 0 (LS_I (2 : Int32)) [])) _
    refine XS.iloadN X0.here hx rfl (hb hby d1_0) rfl ?_
    show Steps p.tables e below (s₁.setTop (mkF m 1 (LS_I (2 : Int32)) [(.int (2 : Int32))])) _
    refine XS.ifYes X0.here hx rfl (pc0 := 1) (pc' := 8) rfl (hb hby d1_1) rfl ((if0 _ _).trans (feq (by decide : ¬ ((2 : Int32) = (0 : Int32)))).2) (by decide) (by decide) ?_
    show Steps p.tables e below (s₁.setTop (mkF m 8 (LS_I (2 : Int32)) [])) _
    refine XS.iloadN X0.here hx rfl (hb hby d1_8) rfl ?_
    show Steps p.tables e below (s₁.setTop (mkF m 9 (LS_I (2 : Int32)) [(.int (2 : Int32))])) _
    refine XS.iconst X0.here hx rfl (hb hby d1_9) ?_
    show Steps p.tables e below (s₁.setTop (mkF m 10 (LS_I (2 : Int32)) [(.int (1 : Int32)), (.int (2 : Int32))])) _
    refine XS.icmpYes X0.here hx rfl (pc0 := 10) (pc' := 17) rfl (hb hby d1_10) rfl (feq (by decide : ¬ ((2 : Int32) = (1 : Int32)))).2 (by decide) (by decide) ?_
    show Steps p.tables e below (s₁.setTop (mkF m 17 (LS_I (2 : Int32)) [])) _
    refine XS.iloadN X0.here hx rfl (hb hby d1_17) rfl ?_
    show Steps p.tables e below (s₁.setTop (mkF m 18 (LS_I (2 : Int32)) [(.int (2 : Int32))])) _
    refine XS.iconst X0.here hx rfl (hb hby d1_18) ?_
    show Steps p.tables e below (s₁.setTop (mkF m 19 (LS_I (2 : Int32)) [(.int (2 : Int32)), (.int (2 : Int32))])) _
    refine XS.icmpNo X0.here hx rfl (hb hby d1_19) rfl (teq (by decide : (2 : Int32) = (2 : Int32))).2 ?_
    exact k
  obtain ⟨T1, X1, e1, st1⟩ := getS2 X0 hx hZ hown (host := "") (Or.inl (hw _ (List.mem_of_getElem? (i := 25) rfl))) Via.refl e0 S0 (g := (mkF m 22 (LS_I (2 : Int32)) [])) rfl (hb hby d1_22)
  refine own_go (B := T1.setTop (mkF m 25 (LS_I (2 : Int32)) [(.ref w0)])) (fun t k => st1 _ k) ?_
  obtain ⟨fs, hr, hrun, hended, hW, hsame⟩ := X1.leave (v := some (.ref w0)) (fun h => by rw [Bd.returns] at h; cases h)
  refine ⟨_, _, ?_, hrun, hended, _, _, rfl, ?_, ⟨_, rfl⟩, hW, hsame.mono (by decide) (by decide)⟩
  · show Steps p.tables e below (T1.setTop (mkF m 25 (LS_I (2 : Int32)) [(.ref w0)])) _
    exact retOut X1 hx Bd.returns rfl (Or.inr (Or.inr (Or.inr (Or.inr ⟨rfl, rfl, rfl⟩)))) (hb hby d1_25) hr
  · show Q1_2 Z w0 h0 n0 _ T1.heap _
    rw [e1]
    exact ⟨rfl, N0, rfl⟩
theorem ef_1_3 (m : MethodId)  : entryFrame m #[(.int (3 : Int32))] 1 = mkF m 0 #[.val (.int (3 : Int32))] [] := by first | (simp [entryFrame, mkF, argsToLocals, Value.category]; done) | rfl
theorem d1_26 : decode method_2_code 26 = .ok (.iload_n 0, 1) := by decide +kernel
theorem d1_27 : decode method_2_code 27 = .ok (.iconst 3, 1) := by decide +kernel
theorem d1_28 : decode method_2_code 28 = .ok (.if_icmp .ne 7, 3) := by decide +kernel
theorem d1_31 : decode method_2_code 31 = .ok (.getstatic 19, 3) := by decide +kernel
theorem d1_34 : decode method_2_code 34 = .ok (.areturn, 1) := by decide +kernel
def Q1_3 (Z : State) (w0 : Addr) (h0 : Heap) (n0 : Nat) (v : Option Value) (h : Heap) (L : List Loc) : Prop := v = some (.ref w0) ∧ Fr n0 L ∧ h = h0
set_option maxRecDepth 65536 in
set_option maxHeartbeats 40000000 in
theorem rm1_3 (l : Launch) (Z : State) (a0 : Array Value) (hw : ∀ d ∈ tables_1, d.before a0 Z = true) (ws : List Jvm.Cond) (w0 : Addr) (h0 : Heap) (n0 : Nat) (Z0 : n0 ≤ h0.size) (S0 : Sta Z h0 "com/example/sickle_cut/sicklecut/map/Country" "FR" "Lcom/example/sickle_cut/sicklecut/map/Country;" (.ref w0)) :
    MetFree l (⟨"com/example/sickle_cut/sicklecut/rules/SideOwningPinLaw", "pick", "(I)Lcom/example/sickle_cut/sicklecut/map/Country;"⟩ : MethodName) (head1 (Jvm.Cond.code (⟨"com/example/sickle_cut/sicklecut/rules/SideOwningPinLaw", "pick", "(I)Lcom/example/sickle_cut/sicklecut/map/Country;"⟩ : MethodName) method_2_code 1 (some (.object "com/example/sickle_cut/sicklecut/map/Country")) :: ws) ({ frames := 0, cells := 0, slots := 0, locals := 0 } : Room)) (fun a U => a = #[(.int (3 : Int32))] ∧ Z.Warmed39 U.vm ∧ U.heap = h0) (fun _ _ _ _ _ => True) (fun _ U o U' => ∃ v L, o = .returned v ∧ Q1_3 Z w0 h0 n0 v U'.heap L ∧ FrameEnd U o U' L ({ frames := 0, cells := 0, slots := 0, locals := 0 } : Room).cells ({ frames := 0, cells := 0, slots := 0, locals := 0 } : Room).slots) := by
  refine MetFree.of_bodySF (plainFor_of_name pn_1) hisR ?_
  intro p e s m args below meth c s₁ Bd hml0 hP hK
  obtain ⟨rfl, hZ, hh⟩ := hP
  have hx := Bd.exec
  have hby := Bd.bytes
  have hml : c.maxLocals = 1 := hml0
  have hown : s.vm.findClass "com/example/sickle_cut/sicklecut/rules/SideOwningPinLaw" = some m.cls := findClass_of_methodNamed Bd.named
  have hnm := (name_of_methodNamed Bd.named Bd.method).1
  have X0 : Stand p l e ({ frames := 0, cells := 0, slots := 0, locals := 0 } : Room) s m #[(.int (3 : Int32))] below meth c s₁ [] 0 0 := Stand.of_body Bd
  have e0 : s₁.heap = h0 := by rw [← hh, Bd.state]; rfl
  have N0 := Fr.nil n0
  refine own_go (B := s₁.setTop (mkF m 0 (LS_I (3 : Int32)) [])) (fun t k => castTop (ef_1_3 m ) k) ?_
  refine own_go (B := s₁.setTop (mkF m 31 (LS_I (3 : Int32)) [])) (fun t k => ?_) ?_
  · show Steps p.tables e below (s₁.setTop (mkF m 0 (LS_I (3 : Int32)) [])) _
    refine XS.iloadN X0.here hx rfl (hb hby d1_0) rfl ?_
    show Steps p.tables e below (s₁.setTop (mkF m 1 (LS_I (3 : Int32)) [(.int (3 : Int32))])) _
    refine XS.ifYes X0.here hx rfl (pc0 := 1) (pc' := 8) rfl (hb hby d1_1) rfl ((if0 _ _).trans (feq (by decide : ¬ ((3 : Int32) = (0 : Int32)))).2) (by decide) (by decide) ?_
    show Steps p.tables e below (s₁.setTop (mkF m 8 (LS_I (3 : Int32)) [])) _
    refine XS.iloadN X0.here hx rfl (hb hby d1_8) rfl ?_
    show Steps p.tables e below (s₁.setTop (mkF m 9 (LS_I (3 : Int32)) [(.int (3 : Int32))])) _
    refine XS.iconst X0.here hx rfl (hb hby d1_9) ?_
    show Steps p.tables e below (s₁.setTop (mkF m 10 (LS_I (3 : Int32)) [(.int (1 : Int32)), (.int (3 : Int32))])) _
    refine XS.icmpYes X0.here hx rfl (pc0 := 10) (pc' := 17) rfl (hb hby d1_10) rfl (feq (by decide : ¬ ((3 : Int32) = (1 : Int32)))).2 (by decide) (by decide) ?_
    show Steps p.tables e below (s₁.setTop (mkF m 17 (LS_I (3 : Int32)) [])) _
    refine XS.iloadN X0.here hx rfl (hb hby d1_17) rfl ?_
    show Steps p.tables e below (s₁.setTop (mkF m 18 (LS_I (3 : Int32)) [(.int (3 : Int32))])) _
    refine XS.iconst X0.here hx rfl (hb hby d1_18) ?_
    show Steps p.tables e below (s₁.setTop (mkF m 19 (LS_I (3 : Int32)) [(.int (2 : Int32)), (.int (3 : Int32))])) _
    refine XS.icmpYes X0.here hx rfl (pc0 := 19) (pc' := 26) rfl (hb hby d1_19) rfl (feq (by decide : ¬ ((3 : Int32) = (2 : Int32)))).2 (by decide) (by decide) ?_
    show Steps p.tables e below (s₁.setTop (mkF m 26 (LS_I (3 : Int32)) [])) _
    refine XS.iloadN X0.here hx rfl (hb hby d1_26) rfl ?_
    show Steps p.tables e below (s₁.setTop (mkF m 27 (LS_I (3 : Int32)) [(.int (3 : Int32))])) _
    refine XS.iconst X0.here hx rfl (hb hby d1_27) ?_
    show Steps p.tables e below (s₁.setTop (mkF m 28 (LS_I (3 : Int32)) [(.int (3 : Int32)), (.int (3 : Int32))])) _
    refine XS.icmpNo X0.here hx rfl (hb hby d1_28) rfl (teq (by decide : (3 : Int32) = (3 : Int32))).2 ?_
    exact k
  obtain ⟨T1, X1, e1, st1⟩ := getS2 X0 hx hZ hown (host := "") (Or.inl (hw _ (List.mem_of_getElem? (i := 17) rfl))) Via.refl e0 S0 (g := (mkF m 31 (LS_I (3 : Int32)) [])) rfl (hb hby d1_31)
  refine own_go (B := T1.setTop (mkF m 34 (LS_I (3 : Int32)) [(.ref w0)])) (fun t k => st1 _ k) ?_
  obtain ⟨fs, hr, hrun, hended, hW, hsame⟩ := X1.leave (v := some (.ref w0)) (fun h => by rw [Bd.returns] at h; cases h)
  refine ⟨_, _, ?_, hrun, hended, _, _, rfl, ?_, ⟨_, rfl⟩, hW, hsame.mono (by decide) (by decide)⟩
  · show Steps p.tables e below (T1.setTop (mkF m 34 (LS_I (3 : Int32)) [(.ref w0)])) _
    exact retOut X1 hx Bd.returns rfl (Or.inr (Or.inr (Or.inr (Or.inr ⟨rfl, rfl, rfl⟩)))) (hb hby d1_34) hr
  · show Q1_3 Z w0 h0 n0 _ T1.heap _
    rw [e1]
    exact ⟨rfl, N0, rfl⟩
theorem ef_1_4 (m : MethodId)  : entryFrame m #[(.int (4 : Int32))] 1 = mkF m 0 #[.val (.int (4 : Int32))] [] := by first | (simp [entryFrame, mkF, argsToLocals, Value.category]; done) | rfl
theorem d1_35 : decode method_2_code 35 = .ok (.iload_n 0, 1) := by decide +kernel
theorem d1_36 : decode method_2_code 36 = .ok (.iconst 4, 1) := by decide +kernel
theorem d1_37 : decode method_2_code 37 = .ok (.if_icmp .ne 7, 3) := by decide +kernel
theorem d1_40 : decode method_2_code 40 = .ok (.getstatic 22, 3) := by decide +kernel
theorem d1_43 : decode method_2_code 43 = .ok (.areturn, 1) := by decide +kernel
def Q1_4 (Z : State) (w0 : Addr) (h0 : Heap) (n0 : Nat) (v : Option Value) (h : Heap) (L : List Loc) : Prop := v = some (.ref w0) ∧ Fr n0 L ∧ h = h0
set_option maxRecDepth 65536 in
set_option maxHeartbeats 40000000 in
theorem rm1_4 (l : Launch) (Z : State) (a0 : Array Value) (hw : ∀ d ∈ tables_1, d.before a0 Z = true) (ws : List Jvm.Cond) (w0 : Addr) (h0 : Heap) (n0 : Nat) (Z0 : n0 ≤ h0.size) (S0 : Sta Z h0 "com/example/sickle_cut/sicklecut/map/Country" "GB" "Lcom/example/sickle_cut/sicklecut/map/Country;" (.ref w0)) :
    MetFree l (⟨"com/example/sickle_cut/sicklecut/rules/SideOwningPinLaw", "pick", "(I)Lcom/example/sickle_cut/sicklecut/map/Country;"⟩ : MethodName) (head1 (Jvm.Cond.code (⟨"com/example/sickle_cut/sicklecut/rules/SideOwningPinLaw", "pick", "(I)Lcom/example/sickle_cut/sicklecut/map/Country;"⟩ : MethodName) method_2_code 1 (some (.object "com/example/sickle_cut/sicklecut/map/Country")) :: ws) ({ frames := 0, cells := 0, slots := 0, locals := 0 } : Room)) (fun a U => a = #[(.int (4 : Int32))] ∧ Z.Warmed39 U.vm ∧ U.heap = h0) (fun _ _ _ _ _ => True) (fun _ U o U' => ∃ v L, o = .returned v ∧ Q1_4 Z w0 h0 n0 v U'.heap L ∧ FrameEnd U o U' L ({ frames := 0, cells := 0, slots := 0, locals := 0 } : Room).cells ({ frames := 0, cells := 0, slots := 0, locals := 0 } : Room).slots) := by
  refine MetFree.of_bodySF (plainFor_of_name pn_1) hisR ?_
  intro p e s m args below meth c s₁ Bd hml0 hP hK
  obtain ⟨rfl, hZ, hh⟩ := hP
  have hx := Bd.exec
  have hby := Bd.bytes
  have hml : c.maxLocals = 1 := hml0
  have hown : s.vm.findClass "com/example/sickle_cut/sicklecut/rules/SideOwningPinLaw" = some m.cls := findClass_of_methodNamed Bd.named
  have hnm := (name_of_methodNamed Bd.named Bd.method).1
  have X0 : Stand p l e ({ frames := 0, cells := 0, slots := 0, locals := 0 } : Room) s m #[(.int (4 : Int32))] below meth c s₁ [] 0 0 := Stand.of_body Bd
  have e0 : s₁.heap = h0 := by rw [← hh, Bd.state]; rfl
  have N0 := Fr.nil n0
  refine own_go (B := s₁.setTop (mkF m 0 (LS_I (4 : Int32)) [])) (fun t k => castTop (ef_1_4 m ) k) ?_
  refine own_go (B := s₁.setTop (mkF m 40 (LS_I (4 : Int32)) [])) (fun t k => ?_) ?_
  · show Steps p.tables e below (s₁.setTop (mkF m 0 (LS_I (4 : Int32)) [])) _
    refine XS.iloadN X0.here hx rfl (hb hby d1_0) rfl ?_
    show Steps p.tables e below (s₁.setTop (mkF m 1 (LS_I (4 : Int32)) [(.int (4 : Int32))])) _
    refine XS.ifYes X0.here hx rfl (pc0 := 1) (pc' := 8) rfl (hb hby d1_1) rfl ((if0 _ _).trans (feq (by decide : ¬ ((4 : Int32) = (0 : Int32)))).2) (by decide) (by decide) ?_
    show Steps p.tables e below (s₁.setTop (mkF m 8 (LS_I (4 : Int32)) [])) _
    refine XS.iloadN X0.here hx rfl (hb hby d1_8) rfl ?_
    show Steps p.tables e below (s₁.setTop (mkF m 9 (LS_I (4 : Int32)) [(.int (4 : Int32))])) _
    refine XS.iconst X0.here hx rfl (hb hby d1_9) ?_
    show Steps p.tables e below (s₁.setTop (mkF m 10 (LS_I (4 : Int32)) [(.int (1 : Int32)), (.int (4 : Int32))])) _
    refine XS.icmpYes X0.here hx rfl (pc0 := 10) (pc' := 17) rfl (hb hby d1_10) rfl (feq (by decide : ¬ ((4 : Int32) = (1 : Int32)))).2 (by decide) (by decide) ?_
    show Steps p.tables e below (s₁.setTop (mkF m 17 (LS_I (4 : Int32)) [])) _
    refine XS.iloadN X0.here hx rfl (hb hby d1_17) rfl ?_
    show Steps p.tables e below (s₁.setTop (mkF m 18 (LS_I (4 : Int32)) [(.int (4 : Int32))])) _
    refine XS.iconst X0.here hx rfl (hb hby d1_18) ?_
    show Steps p.tables e below (s₁.setTop (mkF m 19 (LS_I (4 : Int32)) [(.int (2 : Int32)), (.int (4 : Int32))])) _
    refine XS.icmpYes X0.here hx rfl (pc0 := 19) (pc' := 26) rfl (hb hby d1_19) rfl (feq (by decide : ¬ ((4 : Int32) = (2 : Int32)))).2 (by decide) (by decide) ?_
    show Steps p.tables e below (s₁.setTop (mkF m 26 (LS_I (4 : Int32)) [])) _
    refine XS.iloadN X0.here hx rfl (hb hby d1_26) rfl ?_
    show Steps p.tables e below (s₁.setTop (mkF m 27 (LS_I (4 : Int32)) [(.int (4 : Int32))])) _
    refine XS.iconst X0.here hx rfl (hb hby d1_27) ?_
    show Steps p.tables e below (s₁.setTop (mkF m 28 (LS_I (4 : Int32)) [(.int (3 : Int32)), (.int (4 : Int32))])) _
    refine XS.icmpYes X0.here hx rfl (pc0 := 28) (pc' := 35) rfl (hb hby d1_28) rfl (feq (by decide : ¬ ((4 : Int32) = (3 : Int32)))).2 (by decide) (by decide) ?_
    show Steps p.tables e below (s₁.setTop (mkF m 35 (LS_I (4 : Int32)) [])) _
    refine XS.iloadN X0.here hx rfl (hb hby d1_35) rfl ?_
    show Steps p.tables e below (s₁.setTop (mkF m 36 (LS_I (4 : Int32)) [(.int (4 : Int32))])) _
    refine XS.iconst X0.here hx rfl (hb hby d1_36) ?_
    show Steps p.tables e below (s₁.setTop (mkF m 37 (LS_I (4 : Int32)) [(.int (4 : Int32)), (.int (4 : Int32))])) _
    refine XS.icmpNo X0.here hx rfl (hb hby d1_37) rfl (teq (by decide : (4 : Int32) = (4 : Int32))).2 ?_
    exact k
  obtain ⟨T1, X1, e1, st1⟩ := getS2 X0 hx hZ hown (host := "") (Or.inl (hw _ (List.mem_of_getElem? (i := 23) rfl))) Via.refl e0 S0 (g := (mkF m 40 (LS_I (4 : Int32)) [])) rfl (hb hby d1_40)
  refine own_go (B := T1.setTop (mkF m 43 (LS_I (4 : Int32)) [(.ref w0)])) (fun t k => st1 _ k) ?_
  obtain ⟨fs, hr, hrun, hended, hW, hsame⟩ := X1.leave (v := some (.ref w0)) (fun h => by rw [Bd.returns] at h; cases h)
  refine ⟨_, _, ?_, hrun, hended, _, _, rfl, ?_, ⟨_, rfl⟩, hW, hsame.mono (by decide) (by decide)⟩
  · show Steps p.tables e below (T1.setTop (mkF m 43 (LS_I (4 : Int32)) [(.ref w0)])) _
    exact retOut X1 hx Bd.returns rfl (Or.inr (Or.inr (Or.inr (Or.inr ⟨rfl, rfl, rfl⟩)))) (hb hby d1_43) hr
  · show Q1_4 Z w0 h0 n0 _ T1.heap _
    rw [e1]
    exact ⟨rfl, N0, rfl⟩
theorem ef_1_5 (m : MethodId)  : entryFrame m #[(.int (5 : Int32))] 1 = mkF m 0 #[.val (.int (5 : Int32))] [] := by first | (simp [entryFrame, mkF, argsToLocals, Value.category]; done) | rfl
theorem d1_44 : decode method_2_code 44 = .ok (.iload_n 0, 1) := by decide +kernel
theorem d1_45 : decode method_2_code 45 = .ok (.iconst 5, 1) := by decide +kernel
theorem d1_46 : decode method_2_code 46 = .ok (.if_icmp .ne 7, 3) := by decide +kernel
theorem d1_49 : decode method_2_code 49 = .ok (.getstatic 25, 3) := by decide +kernel
theorem d1_52 : decode method_2_code 52 = .ok (.areturn, 1) := by decide +kernel
def Q1_5 (Z : State) (w0 : Addr) (h0 : Heap) (n0 : Nat) (v : Option Value) (h : Heap) (L : List Loc) : Prop := v = some (.ref w0) ∧ Fr n0 L ∧ h = h0
set_option maxRecDepth 65536 in
set_option maxHeartbeats 40000000 in
theorem rm1_5 (l : Launch) (Z : State) (a0 : Array Value) (hw : ∀ d ∈ tables_1, d.before a0 Z = true) (ws : List Jvm.Cond) (w0 : Addr) (h0 : Heap) (n0 : Nat) (Z0 : n0 ≤ h0.size) (S0 : Sta Z h0 "com/example/sickle_cut/sicklecut/map/Country" "LU" "Lcom/example/sickle_cut/sicklecut/map/Country;" (.ref w0)) :
    MetFree l (⟨"com/example/sickle_cut/sicklecut/rules/SideOwningPinLaw", "pick", "(I)Lcom/example/sickle_cut/sicklecut/map/Country;"⟩ : MethodName) (head1 (Jvm.Cond.code (⟨"com/example/sickle_cut/sicklecut/rules/SideOwningPinLaw", "pick", "(I)Lcom/example/sickle_cut/sicklecut/map/Country;"⟩ : MethodName) method_2_code 1 (some (.object "com/example/sickle_cut/sicklecut/map/Country")) :: ws) ({ frames := 0, cells := 0, slots := 0, locals := 0 } : Room)) (fun a U => a = #[(.int (5 : Int32))] ∧ Z.Warmed39 U.vm ∧ U.heap = h0) (fun _ _ _ _ _ => True) (fun _ U o U' => ∃ v L, o = .returned v ∧ Q1_5 Z w0 h0 n0 v U'.heap L ∧ FrameEnd U o U' L ({ frames := 0, cells := 0, slots := 0, locals := 0 } : Room).cells ({ frames := 0, cells := 0, slots := 0, locals := 0 } : Room).slots) := by
  refine MetFree.of_bodySF (plainFor_of_name pn_1) hisR ?_
  intro p e s m args below meth c s₁ Bd hml0 hP hK
  obtain ⟨rfl, hZ, hh⟩ := hP
  have hx := Bd.exec
  have hby := Bd.bytes
  have hml : c.maxLocals = 1 := hml0
  have hown : s.vm.findClass "com/example/sickle_cut/sicklecut/rules/SideOwningPinLaw" = some m.cls := findClass_of_methodNamed Bd.named
  have hnm := (name_of_methodNamed Bd.named Bd.method).1
  have X0 : Stand p l e ({ frames := 0, cells := 0, slots := 0, locals := 0 } : Room) s m #[(.int (5 : Int32))] below meth c s₁ [] 0 0 := Stand.of_body Bd
  have e0 : s₁.heap = h0 := by rw [← hh, Bd.state]; rfl
  have N0 := Fr.nil n0
  refine own_go (B := s₁.setTop (mkF m 0 (LS_I (5 : Int32)) [])) (fun t k => castTop (ef_1_5 m ) k) ?_
  refine own_go (B := s₁.setTop (mkF m 49 (LS_I (5 : Int32)) [])) (fun t k => ?_) ?_
  · show Steps p.tables e below (s₁.setTop (mkF m 0 (LS_I (5 : Int32)) [])) _
    refine XS.iloadN X0.here hx rfl (hb hby d1_0) rfl ?_
    show Steps p.tables e below (s₁.setTop (mkF m 1 (LS_I (5 : Int32)) [(.int (5 : Int32))])) _
    refine XS.ifYes X0.here hx rfl (pc0 := 1) (pc' := 8) rfl (hb hby d1_1) rfl ((if0 _ _).trans (feq (by decide : ¬ ((5 : Int32) = (0 : Int32)))).2) (by decide) (by decide) ?_
    show Steps p.tables e below (s₁.setTop (mkF m 8 (LS_I (5 : Int32)) [])) _
    refine XS.iloadN X0.here hx rfl (hb hby d1_8) rfl ?_
    show Steps p.tables e below (s₁.setTop (mkF m 9 (LS_I (5 : Int32)) [(.int (5 : Int32))])) _
    refine XS.iconst X0.here hx rfl (hb hby d1_9) ?_
    show Steps p.tables e below (s₁.setTop (mkF m 10 (LS_I (5 : Int32)) [(.int (1 : Int32)), (.int (5 : Int32))])) _
    refine XS.icmpYes X0.here hx rfl (pc0 := 10) (pc' := 17) rfl (hb hby d1_10) rfl (feq (by decide : ¬ ((5 : Int32) = (1 : Int32)))).2 (by decide) (by decide) ?_
    show Steps p.tables e below (s₁.setTop (mkF m 17 (LS_I (5 : Int32)) [])) _
    refine XS.iloadN X0.here hx rfl (hb hby d1_17) rfl ?_
    show Steps p.tables e below (s₁.setTop (mkF m 18 (LS_I (5 : Int32)) [(.int (5 : Int32))])) _
    refine XS.iconst X0.here hx rfl (hb hby d1_18) ?_
    show Steps p.tables e below (s₁.setTop (mkF m 19 (LS_I (5 : Int32)) [(.int (2 : Int32)), (.int (5 : Int32))])) _
    refine XS.icmpYes X0.here hx rfl (pc0 := 19) (pc' := 26) rfl (hb hby d1_19) rfl (feq (by decide : ¬ ((5 : Int32) = (2 : Int32)))).2 (by decide) (by decide) ?_
    show Steps p.tables e below (s₁.setTop (mkF m 26 (LS_I (5 : Int32)) [])) _
    refine XS.iloadN X0.here hx rfl (hb hby d1_26) rfl ?_
    show Steps p.tables e below (s₁.setTop (mkF m 27 (LS_I (5 : Int32)) [(.int (5 : Int32))])) _
    refine XS.iconst X0.here hx rfl (hb hby d1_27) ?_
    show Steps p.tables e below (s₁.setTop (mkF m 28 (LS_I (5 : Int32)) [(.int (3 : Int32)), (.int (5 : Int32))])) _
    refine XS.icmpYes X0.here hx rfl (pc0 := 28) (pc' := 35) rfl (hb hby d1_28) rfl (feq (by decide : ¬ ((5 : Int32) = (3 : Int32)))).2 (by decide) (by decide) ?_
    show Steps p.tables e below (s₁.setTop (mkF m 35 (LS_I (5 : Int32)) [])) _
    refine XS.iloadN X0.here hx rfl (hb hby d1_35) rfl ?_
    show Steps p.tables e below (s₁.setTop (mkF m 36 (LS_I (5 : Int32)) [(.int (5 : Int32))])) _
    refine XS.iconst X0.here hx rfl (hb hby d1_36) ?_
    show Steps p.tables e below (s₁.setTop (mkF m 37 (LS_I (5 : Int32)) [(.int (4 : Int32)), (.int (5 : Int32))])) _
    refine XS.icmpYes X0.here hx rfl (pc0 := 37) (pc' := 44) rfl (hb hby d1_37) rfl (feq (by decide : ¬ ((5 : Int32) = (4 : Int32)))).2 (by decide) (by decide) ?_
    show Steps p.tables e below (s₁.setTop (mkF m 44 (LS_I (5 : Int32)) [])) _
    refine XS.iloadN X0.here hx rfl (hb hby d1_44) rfl ?_
    show Steps p.tables e below (s₁.setTop (mkF m 45 (LS_I (5 : Int32)) [(.int (5 : Int32))])) _
    refine XS.iconst X0.here hx rfl (hb hby d1_45) ?_
    show Steps p.tables e below (s₁.setTop (mkF m 46 (LS_I (5 : Int32)) [(.int (5 : Int32)), (.int (5 : Int32))])) _
    refine XS.icmpNo X0.here hx rfl (hb hby d1_46) rfl (teq (by decide : (5 : Int32) = (5 : Int32))).2 ?_
    exact k
  obtain ⟨T1, X1, e1, st1⟩ := getS2 X0 hx hZ hown (host := "") (Or.inl (hw _ (List.mem_of_getElem? (i := 19) rfl))) Via.refl e0 S0 (g := (mkF m 49 (LS_I (5 : Int32)) [])) rfl (hb hby d1_49)
  refine own_go (B := T1.setTop (mkF m 52 (LS_I (5 : Int32)) [(.ref w0)])) (fun t k => st1 _ k) ?_
  obtain ⟨fs, hr, hrun, hended, hW, hsame⟩ := X1.leave (v := some (.ref w0)) (fun h => by rw [Bd.returns] at h; cases h)
  refine ⟨_, _, ?_, hrun, hended, _, _, rfl, ?_, ⟨_, rfl⟩, hW, hsame.mono (by decide) (by decide)⟩
  · show Steps p.tables e below (T1.setTop (mkF m 52 (LS_I (5 : Int32)) [(.ref w0)])) _
    exact retOut X1 hx Bd.returns rfl (Or.inr (Or.inr (Or.inr (Or.inr ⟨rfl, rfl, rfl⟩)))) (hb hby d1_52) hr
  · show Q1_5 Z w0 h0 n0 _ T1.heap _
    rw [e1]
    exact ⟨rfl, N0, rfl⟩
theorem ef_1_6 (m : MethodId)  : entryFrame m #[(.int (6 : Int32))] 1 = mkF m 0 #[.val (.int (6 : Int32))] [] := by first | (simp [entryFrame, mkF, argsToLocals, Value.category]; done) | rfl
theorem d1_53 : decode method_2_code 53 = .ok (.getstatic 28, 3) := by decide +kernel
theorem d1_56 : decode method_2_code 56 = .ok (.areturn, 1) := by decide +kernel
def Q1_6 (Z : State) (w0 : Addr) (h0 : Heap) (n0 : Nat) (v : Option Value) (h : Heap) (L : List Loc) : Prop := v = some (.ref w0) ∧ Fr n0 L ∧ h = h0
set_option maxRecDepth 65536 in
set_option maxHeartbeats 40000000 in
theorem rm1_6 (l : Launch) (Z : State) (a0 : Array Value) (hw : ∀ d ∈ tables_1, d.before a0 Z = true) (ws : List Jvm.Cond) (w0 : Addr) (h0 : Heap) (n0 : Nat) (Z0 : n0 ≤ h0.size) (S0 : Sta Z h0 "com/example/sickle_cut/sicklecut/map/Country" "NL" "Lcom/example/sickle_cut/sicklecut/map/Country;" (.ref w0)) :
    MetFree l (⟨"com/example/sickle_cut/sicklecut/rules/SideOwningPinLaw", "pick", "(I)Lcom/example/sickle_cut/sicklecut/map/Country;"⟩ : MethodName) (head1 (Jvm.Cond.code (⟨"com/example/sickle_cut/sicklecut/rules/SideOwningPinLaw", "pick", "(I)Lcom/example/sickle_cut/sicklecut/map/Country;"⟩ : MethodName) method_2_code 1 (some (.object "com/example/sickle_cut/sicklecut/map/Country")) :: ws) ({ frames := 0, cells := 0, slots := 0, locals := 0 } : Room)) (fun a U => a = #[(.int (6 : Int32))] ∧ Z.Warmed39 U.vm ∧ U.heap = h0) (fun _ _ _ _ _ => True) (fun _ U o U' => ∃ v L, o = .returned v ∧ Q1_6 Z w0 h0 n0 v U'.heap L ∧ FrameEnd U o U' L ({ frames := 0, cells := 0, slots := 0, locals := 0 } : Room).cells ({ frames := 0, cells := 0, slots := 0, locals := 0 } : Room).slots) := by
  refine MetFree.of_bodySF (plainFor_of_name pn_1) hisR ?_
  intro p e s m args below meth c s₁ Bd hml0 hP hK
  obtain ⟨rfl, hZ, hh⟩ := hP
  have hx := Bd.exec
  have hby := Bd.bytes
  have hml : c.maxLocals = 1 := hml0
  have hown : s.vm.findClass "com/example/sickle_cut/sicklecut/rules/SideOwningPinLaw" = some m.cls := findClass_of_methodNamed Bd.named
  have hnm := (name_of_methodNamed Bd.named Bd.method).1
  have X0 : Stand p l e ({ frames := 0, cells := 0, slots := 0, locals := 0 } : Room) s m #[(.int (6 : Int32))] below meth c s₁ [] 0 0 := Stand.of_body Bd
  have e0 : s₁.heap = h0 := by rw [← hh, Bd.state]; rfl
  have N0 := Fr.nil n0
  refine own_go (B := s₁.setTop (mkF m 0 (LS_I (6 : Int32)) [])) (fun t k => castTop (ef_1_6 m ) k) ?_
  refine own_go (B := s₁.setTop (mkF m 53 (LS_I (6 : Int32)) [])) (fun t k => ?_) ?_
  · show Steps p.tables e below (s₁.setTop (mkF m 0 (LS_I (6 : Int32)) [])) _
    refine XS.iloadN X0.here hx rfl (hb hby d1_0) rfl ?_
    show Steps p.tables e below (s₁.setTop (mkF m 1 (LS_I (6 : Int32)) [(.int (6 : Int32))])) _
    refine XS.ifYes X0.here hx rfl (pc0 := 1) (pc' := 8) rfl (hb hby d1_1) rfl ((if0 _ _).trans (feq (by decide : ¬ ((6 : Int32) = (0 : Int32)))).2) (by decide) (by decide) ?_
    show Steps p.tables e below (s₁.setTop (mkF m 8 (LS_I (6 : Int32)) [])) _
    refine XS.iloadN X0.here hx rfl (hb hby d1_8) rfl ?_
    show Steps p.tables e below (s₁.setTop (mkF m 9 (LS_I (6 : Int32)) [(.int (6 : Int32))])) _
    refine XS.iconst X0.here hx rfl (hb hby d1_9) ?_
    show Steps p.tables e below (s₁.setTop (mkF m 10 (LS_I (6 : Int32)) [(.int (1 : Int32)), (.int (6 : Int32))])) _
    refine XS.icmpYes X0.here hx rfl (pc0 := 10) (pc' := 17) rfl (hb hby d1_10) rfl (feq (by decide : ¬ ((6 : Int32) = (1 : Int32)))).2 (by decide) (by decide) ?_
    show Steps p.tables e below (s₁.setTop (mkF m 17 (LS_I (6 : Int32)) [])) _
    refine XS.iloadN X0.here hx rfl (hb hby d1_17) rfl ?_
    show Steps p.tables e below (s₁.setTop (mkF m 18 (LS_I (6 : Int32)) [(.int (6 : Int32))])) _
    refine XS.iconst X0.here hx rfl (hb hby d1_18) ?_
    show Steps p.tables e below (s₁.setTop (mkF m 19 (LS_I (6 : Int32)) [(.int (2 : Int32)), (.int (6 : Int32))])) _
    refine XS.icmpYes X0.here hx rfl (pc0 := 19) (pc' := 26) rfl (hb hby d1_19) rfl (feq (by decide : ¬ ((6 : Int32) = (2 : Int32)))).2 (by decide) (by decide) ?_
    show Steps p.tables e below (s₁.setTop (mkF m 26 (LS_I (6 : Int32)) [])) _
    refine XS.iloadN X0.here hx rfl (hb hby d1_26) rfl ?_
    show Steps p.tables e below (s₁.setTop (mkF m 27 (LS_I (6 : Int32)) [(.int (6 : Int32))])) _
    refine XS.iconst X0.here hx rfl (hb hby d1_27) ?_
    show Steps p.tables e below (s₁.setTop (mkF m 28 (LS_I (6 : Int32)) [(.int (3 : Int32)), (.int (6 : Int32))])) _
    refine XS.icmpYes X0.here hx rfl (pc0 := 28) (pc' := 35) rfl (hb hby d1_28) rfl (feq (by decide : ¬ ((6 : Int32) = (3 : Int32)))).2 (by decide) (by decide) ?_
    show Steps p.tables e below (s₁.setTop (mkF m 35 (LS_I (6 : Int32)) [])) _
    refine XS.iloadN X0.here hx rfl (hb hby d1_35) rfl ?_
    show Steps p.tables e below (s₁.setTop (mkF m 36 (LS_I (6 : Int32)) [(.int (6 : Int32))])) _
    refine XS.iconst X0.here hx rfl (hb hby d1_36) ?_
    show Steps p.tables e below (s₁.setTop (mkF m 37 (LS_I (6 : Int32)) [(.int (4 : Int32)), (.int (6 : Int32))])) _
    refine XS.icmpYes X0.here hx rfl (pc0 := 37) (pc' := 44) rfl (hb hby d1_37) rfl (feq (by decide : ¬ ((6 : Int32) = (4 : Int32)))).2 (by decide) (by decide) ?_
    show Steps p.tables e below (s₁.setTop (mkF m 44 (LS_I (6 : Int32)) [])) _
    refine XS.iloadN X0.here hx rfl (hb hby d1_44) rfl ?_
    show Steps p.tables e below (s₁.setTop (mkF m 45 (LS_I (6 : Int32)) [(.int (6 : Int32))])) _
    refine XS.iconst X0.here hx rfl (hb hby d1_45) ?_
    show Steps p.tables e below (s₁.setTop (mkF m 46 (LS_I (6 : Int32)) [(.int (5 : Int32)), (.int (6 : Int32))])) _
    refine XS.icmpYes X0.here hx rfl (pc0 := 46) (pc' := 53) rfl (hb hby d1_46) rfl (feq (by decide : ¬ ((6 : Int32) = (5 : Int32)))).2 (by decide) (by decide) ?_
    exact k
  obtain ⟨T1, X1, e1, st1⟩ := getS2 X0 hx hZ hown (host := "") (Or.inl (hw _ (List.mem_of_getElem? (i := 21) rfl))) Via.refl e0 S0 (g := (mkF m 53 (LS_I (6 : Int32)) [])) rfl (hb hby d1_53)
  refine own_go (B := T1.setTop (mkF m 56 (LS_I (6 : Int32)) [(.ref w0)])) (fun t k => st1 _ k) ?_
  obtain ⟨fs, hr, hrun, hended, hW, hsame⟩ := X1.leave (v := some (.ref w0)) (fun h => by rw [Bd.returns] at h; cases h)
  refine ⟨_, _, ?_, hrun, hended, _, _, rfl, ?_, ⟨_, rfl⟩, hW, hsame.mono (by decide) (by decide)⟩
  · show Steps p.tables e below (T1.setTop (mkF m 56 (LS_I (6 : Int32)) [(.ref w0)])) _
    exact retOut X1 hx Bd.returns rfl (Or.inr (Or.inr (Or.inr (Or.inr ⟨rfl, rfl, rfl⟩)))) (hb hby d1_56) hr
  · show Q1_6 Z w0 h0 n0 _ T1.heap _
    rw [e1]
    exact ⟨rfl, N0, rfl⟩
theorem ef_2 (m : MethodId) (r0 : Addr) : entryFrame m #[(.ref r0)] 1 = mkF m 0 #[.val (.ref r0)] [] := by first | (simp [entryFrame, mkF, argsToLocals, Value.category]; done) | rfl
theorem pn_2 : plainName "com/example/sickle_cut/sicklecut/rules/Side" = true := by first | (simp [plainName, overriddenIn]; done) | decide +kernel
abbrev LS_R (a0 : Addr) : Array Slot := #[.val (.ref a0)]
theorem d2_0 : decode prog_35_method_6_code 0 = .ok (.aload_n 0, 1) := by decide +kernel
theorem d2_1 : decode prog_35_method_6_code 1 = .ok (.getstatic 45, 3) := by decide +kernel
theorem d2_4 : decode prog_35_method_6_code 4 = .ok (.if_acmp .ne 9, 3) := by decide +kernel
theorem d2_7 : decode prog_35_method_6_code 7 = .ok (.getstatic 3, 3) := by decide +kernel
theorem d2_10 : decode prog_35_method_6_code 10 = .ok (.goto 6, 3) := by decide +kernel
theorem d2_16 : decode prog_35_method_6_code 16 = .ok (.areturn, 1) := by decide +kernel
theorem d2_13 : decode prog_35_method_6_code 13 = .ok (.getstatic 7, 3) := by decide +kernel
def Q2 (Z : State) (r0 : Addr) (wD : Addr) (wG : Addr) (wA : Addr) (h0 : Heap) (n0 : Nat) (v : Option Value) (h : Heap) (L : List Loc) : Prop := v = some (.ref (if r0 = wD then wG else wA)) ∧ Fr n0 L ∧ h = h0
set_option maxRecDepth 65536 in
set_option maxHeartbeats 40000000 in
theorem rm2 (l : Launch) (Z : State) (a0 : Array Value) (hw : ∀ d ∈ tables_1, d.before a0 Z = true) (ws : List Jvm.Cond) (r0 : Addr) (wD : Addr) (wG : Addr) (wA : Addr) (h0 : Heap) (n0 : Nat) (Z0 : n0 ≤ h0.size) (S_DE : Sta Z h0 "com/example/sickle_cut/sicklecut/map/Country" "DE" "Lcom/example/sickle_cut/sicklecut/map/Country;" (.ref wD)) (S_GERMAN : Sta Z h0 "com/example/sickle_cut/sicklecut/rules/Side" "GERMAN" "Lcom/example/sickle_cut/sicklecut/rules/Side;" (.ref wG)) (S_ALLIED : Sta Z h0 "com/example/sickle_cut/sicklecut/rules/Side" "ALLIED" "Lcom/example/sickle_cut/sicklecut/rules/Side;" (.ref wA)) :
    MetFree l (⟨"com/example/sickle_cut/sicklecut/rules/Side", "owning", "(Lcom/example/sickle_cut/sicklecut/map/Country;)Lcom/example/sickle_cut/sicklecut/rules/Side;"⟩ : MethodName) (head1 (Jvm.Cond.code (⟨"com/example/sickle_cut/sicklecut/rules/Side", "owning", "(Lcom/example/sickle_cut/sicklecut/map/Country;)Lcom/example/sickle_cut/sicklecut/rules/Side;"⟩ : MethodName) prog_35_method_6_code 1 (some (.object "com/example/sickle_cut/sicklecut/rules/Side")) :: ws) ({ frames := 0, cells := 0, slots := 0, locals := 0 } : Room)) (fun a U => a = #[(.ref r0)] ∧ Z.Warmed39 U.vm ∧ U.heap = h0) (fun _ _ _ _ _ => True) (fun _ U o U' => ∃ v L, o = .returned v ∧ Q2 Z r0 wD wG wA h0 n0 v U'.heap L ∧ FrameEnd U o U' L ({ frames := 0, cells := 0, slots := 0, locals := 0 } : Room).cells ({ frames := 0, cells := 0, slots := 0, locals := 0 } : Room).slots) := by
  refine MetFree.of_bodySF (plainFor_of_name pn_2) hisR ?_
  intro p e s m args below meth c s₁ Bd hml0 hP hK
  obtain ⟨rfl, hZ, hh⟩ := hP
  have hx := Bd.exec
  have hby := Bd.bytes
  have hml : c.maxLocals = 1 := hml0
  have hown : s.vm.findClass "com/example/sickle_cut/sicklecut/rules/Side" = some m.cls := findClass_of_methodNamed Bd.named
  have hnm := (name_of_methodNamed Bd.named Bd.method).1
  have X0 : Stand p l e ({ frames := 0, cells := 0, slots := 0, locals := 0 } : Room) s m #[(.ref r0)] below meth c s₁ [] 0 0 := Stand.of_body Bd
  have e0 : s₁.heap = h0 := by rw [← hh, Bd.state]; rfl
  have N0 := Fr.nil n0
  refine own_go (B := s₁.setTop (mkF m 0 (LS_R r0) [])) (fun t k => castTop (ef_2 m r0) k) ?_
  refine own_go (B := s₁.setTop (mkF m 1 (LS_R r0) [(.ref r0)])) (fun t k => ?_) ?_
  · show Steps p.tables e below (s₁.setTop (mkF m 0 (LS_R r0) [])) _
    refine XS.aloadN X0.here hx rfl (hb hby d2_0) rfl rfl ?_
    exact k
  obtain ⟨T1, X1, e1, st1⟩ := getS2 X0 hx hZ hown (host := "") (Or.inl (hw _ (List.mem_of_getElem? (i := 12) rfl))) Via.refl e0 S_DE (g := (mkF m 1 (LS_R r0) [(.ref r0)])) rfl (hb hby d2_1)
  refine own_go (B := T1.setTop (mkF m 4 (LS_R r0) [(.ref wD), (.ref r0)])) (fun t k => st1 _ k) ?_
  by_cases hc4_2 : r0 = wD
  · refine own_go (B := T1.setTop (mkF m 7 (LS_R r0) [])) (fun t k => ?_) ?_
    · show Steps p.tables e below (T1.setTop (mkF m 4 (LS_R r0) [(.ref wD), (.ref r0)])) _
      refine Jvm.RoadKit.acmp (g := (mkF m 4 (LS_R r0) [(.ref wD), (.ref r0)])) X1 hx rfl rfl rfl (pc0 := 4) (pc' := 7) (same := true) rfl (hb hby d2_4) rfl (decide_eq_true (congrArg Value.ref hc4_2)) (by decide) (by decide) ?_
      exact k
    obtain ⟨T3, X3, e3, st3⟩ := getS2 X1 hx hZ hown (host := "") (Or.inl (hw _ (List.mem_of_getElem? (i := 26) rfl))) Via.refl e1 S_GERMAN (g := (mkF m 7 (LS_R r0) [])) rfl (hb hby d2_7)
    refine own_go (B := T3.setTop (mkF m 10 (LS_R r0) [(.ref wG)])) (fun t k => st3 _ k) ?_
    refine own_go (B := T3.setTop (mkF m 16 (LS_R r0) [(.ref wG)])) (fun t k => ?_) ?_
    · show Steps p.tables e below (T3.setTop (mkF m 10 (LS_R r0) [(.ref wG)])) _
      refine XS.goto X3.here hx rfl (pc0 := 10) (pc' := 16) rfl (hb hby d2_10) (by decide) (by decide) ?_
      exact k
    obtain ⟨fs, hr, hrun, hended, hW, hsame⟩ := X3.leave (v := some (.ref wG)) (fun h => by rw [Bd.returns] at h; cases h)
    refine ⟨_, _, ?_, hrun, hended, _, _, rfl, ?_, ⟨_, rfl⟩, hW, hsame.mono (by decide) (by decide)⟩
    · show Steps p.tables e below (T3.setTop (mkF m 16 (LS_R r0) [(.ref wG)])) _
      exact retOut X3 hx Bd.returns rfl (Or.inr (Or.inr (Or.inr (Or.inr ⟨rfl, rfl, rfl⟩)))) (hb hby d2_16) hr
    · show Q2 Z r0 wD wG wA h0 n0 _ T3.heap _
      rw [e3]
      exact ⟨by rw [if_pos hc4_2], N0, rfl⟩
  · refine own_go (B := T1.setTop (mkF m 13 (LS_R r0) [])) (fun t k => ?_) ?_
    · show Steps p.tables e below (T1.setTop (mkF m 4 (LS_R r0) [(.ref wD), (.ref r0)])) _
      refine Jvm.RoadKit.acmp (g := (mkF m 4 (LS_R r0) [(.ref wD), (.ref r0)])) X1 hx rfl rfl rfl (pc0 := 4) (pc' := 13) (same := false) rfl (hb hby d2_4) rfl (decide_eq_false fun q => hc4_2 (Value.ref.inj q)) (by decide) (by decide) ?_
      exact k
    obtain ⟨T4, X4, e4, st4⟩ := getS2 X1 hx hZ hown (host := "") (Or.inl (hw _ (List.mem_of_getElem? (i := 14) rfl))) Via.refl e1 S_ALLIED (g := (mkF m 13 (LS_R r0) [])) rfl (hb hby d2_13)
    refine own_go (B := T4.setTop (mkF m 16 (LS_R r0) [(.ref wA)])) (fun t k => st4 _ k) ?_
    obtain ⟨fs, hr, hrun, hended, hW, hsame⟩ := X4.leave (v := some (.ref wA)) (fun h => by rw [Bd.returns] at h; cases h)
    refine ⟨_, _, ?_, hrun, hended, _, _, rfl, ?_, ⟨_, rfl⟩, hW, hsame.mono (by decide) (by decide)⟩
    · show Steps p.tables e below (T4.setTop (mkF m 16 (LS_R r0) [(.ref wA)])) _
      exact retOut X4 hx Bd.returns rfl (Or.inr (Or.inr (Or.inr (Or.inr ⟨rfl, rfl, rfl⟩)))) (hb hby d2_16) hr
    · show Q2 Z r0 wD wG wA h0 n0 _ T4.heap _
      rw [e4]
      exact ⟨by rw [if_neg hc4_2], N0, rfl⟩
theorem ef_0 (m : MethodId) (p0 : Int32) : entryFrame m #[(.int p0)] maxLocals = mkF m 0 #[.val (.int p0), .unset, .unset, .unset, .unset] [] := by first | (simp [entryFrame, mkF, argsToLocals, Value.category, maxLocals]; done) | rfl
theorem pn_0 : plainName "com/example/sickle_cut/sicklecut/rules/SideOwningPinLaw" = true := by first | (simp [plainName, overriddenIn]; done) | decide +kernel
abbrev LS_Iuuuu (a0 : Int32) : Array Slot := #[.val (.int a0), .unset, .unset, .unset, .unset]
abbrev LS_IIuuu (a0 : Int32) (a1 : Int32) : Array Slot := #[.val (.int a0), .val (.int a1), .unset, .unset, .unset]
theorem pd__I_Lcom_example_sickle_cut_sicklecut_map_Country_ : parseMethodDescriptor "(I)Lcom/example/sickle_cut/sicklecut/map/Country;" = some ⟨[.int], some (.object "com/example/sickle_cut/sicklecut/map/Country")⟩ := by decide +kernel
abbrev LS_IIRuu (a0 : Int32) (a1 : Int32) (a2 : Addr) : Array Slot := #[.val (.int a0), .val (.int a1), .val (.ref a2), .unset, .unset]
abbrev LS_IIRIu (a0 : Int32) (a1 : Int32) (a2 : Addr) (a3 : Int32) : Array Slot := #[.val (.int a0), .val (.int a1), .val (.ref a2), .val (.int a3), .unset]
theorem pd__Lcom_example_sickle_cut_sicklecut_map_Country__Lcom_example_sickle_cut_sicklecut_rules_Side_ : parseMethodDescriptor "(Lcom/example/sickle_cut/sicklecut/map/Country;)Lcom/example/sickle_cut/sicklecut/rules/Side;" = some ⟨[(.object "com/example/sickle_cut/sicklecut/map/Country")], some (.object "com/example/sickle_cut/sicklecut/rules/Side")⟩ := by decide +kernel
abbrev LS_IIRIR (a0 : Int32) (a1 : Int32) (a2 : Addr) (a3 : Int32) (a4 : Addr) : Array Slot := #[.val (.int a0), .val (.int a1), .val (.ref a2), .val (.int a3), .val (.ref a4)]
def Q0 (Z : State) (p0 : Int32) (w_Country_BE : Addr) (w_Country_DE : Addr) (w_Side_ALLIED : Addr) (w_Country_FR : Addr) (w_Country_LU : Addr) (w_Country_NL : Addr) (w_Country_GB : Addr) (w_Side_GERMAN : Addr) (w_Country_CH : Addr) (h0 : Heap) (n0 : Nat) (v : Option Value) (h : Heap) (L : List Loc) : Prop := v = some (.int (1 : Int32)) ∧ Fr n0 L
set_option maxRecDepth 65536 in
set_option maxHeartbeats 40000000 in
theorem rm0 (l : Launch) (Z : State) (a0 : Array Value) (hw : ∀ d ∈ tables_1, d.before a0 Z = true) (ws : List Jvm.Cond) (p0 : Int32) (w_Country_BE : Addr) (w_Country_DE : Addr) (w_Side_ALLIED : Addr) (w_Country_FR : Addr) (w_Country_LU : Addr) (w_Country_NL : Addr) (w_Country_GB : Addr) (w_Side_GERMAN : Addr) (w_Country_CH : Addr) (h0 : Heap) (n0 : Nat) (Z0 : n0 ≤ h0.size) (S_Country_BE : Sta Z h0 "com/example/sickle_cut/sicklecut/map/Country" "BE" "Lcom/example/sickle_cut/sicklecut/map/Country;" (.ref w_Country_BE)) (E_Country_BE : Exa Z h0 w_Country_BE "com/example/sickle_cut/sicklecut/map/Country") (S_Country_DE : Sta Z h0 "com/example/sickle_cut/sicklecut/map/Country" "DE" "Lcom/example/sickle_cut/sicklecut/map/Country;" (.ref w_Country_DE)) (E_Country_DE : Exa Z h0 w_Country_DE "com/example/sickle_cut/sicklecut/map/Country") (S_Side_ALLIED : Sta Z h0 "com/example/sickle_cut/sicklecut/rules/Side" "ALLIED" "Lcom/example/sickle_cut/sicklecut/rules/Side;" (.ref w_Side_ALLIED)) (E_Side_ALLIED : Exa Z h0 w_Side_ALLIED "com/example/sickle_cut/sicklecut/rules/Side") (S_Country_FR : Sta Z h0 "com/example/sickle_cut/sicklecut/map/Country" "FR" "Lcom/example/sickle_cut/sicklecut/map/Country;" (.ref w_Country_FR)) (E_Country_FR : Exa Z h0 w_Country_FR "com/example/sickle_cut/sicklecut/map/Country") (S_Country_LU : Sta Z h0 "com/example/sickle_cut/sicklecut/map/Country" "LU" "Lcom/example/sickle_cut/sicklecut/map/Country;" (.ref w_Country_LU)) (E_Country_LU : Exa Z h0 w_Country_LU "com/example/sickle_cut/sicklecut/map/Country") (S_Country_NL : Sta Z h0 "com/example/sickle_cut/sicklecut/map/Country" "NL" "Lcom/example/sickle_cut/sicklecut/map/Country;" (.ref w_Country_NL)) (E_Country_NL : Exa Z h0 w_Country_NL "com/example/sickle_cut/sicklecut/map/Country") (S_Country_GB : Sta Z h0 "com/example/sickle_cut/sicklecut/map/Country" "GB" "Lcom/example/sickle_cut/sicklecut/map/Country;" (.ref w_Country_GB)) (E_Country_GB : Exa Z h0 w_Country_GB "com/example/sickle_cut/sicklecut/map/Country") (S_Side_GERMAN : Sta Z h0 "com/example/sickle_cut/sicklecut/rules/Side" "GERMAN" "Lcom/example/sickle_cut/sicklecut/rules/Side;" (.ref w_Side_GERMAN)) (E_Side_GERMAN : Exa Z h0 w_Side_GERMAN "com/example/sickle_cut/sicklecut/rules/Side") (S_Country_CH : Sta Z h0 "com/example/sickle_cut/sicklecut/map/Country" "CH" "Lcom/example/sickle_cut/sicklecut/map/Country;" (.ref w_Country_CH)) (E_Country_CH : Exa Z h0 w_Country_CH "com/example/sickle_cut/sicklecut/map/Country") (F_Country_BE_ordinal : Fld Z h0 w_Country_BE "java/lang/Enum" "ordinal" "I" (.int (0 : Int32))) (F_Country_DE_ordinal : Fld Z h0 w_Country_DE "java/lang/Enum" "ordinal" "I" (.int (2 : Int32))) (F_Country_FR_ordinal : Fld Z h0 w_Country_FR "java/lang/Enum" "ordinal" "I" (.int (3 : Int32))) (F_Country_LU_ordinal : Fld Z h0 w_Country_LU "java/lang/Enum" "ordinal" "I" (.int (5 : Int32))) (F_Country_NL_ordinal : Fld Z h0 w_Country_NL "java/lang/Enum" "ordinal" "I" (.int (6 : Int32))) (F_Country_GB_ordinal : Fld Z h0 w_Country_GB "java/lang/Enum" "ordinal" "I" (.int (4 : Int32))) (F_Country_CH_ordinal : Fld Z h0 w_Country_CH "java/lang/Enum" "ordinal" "I" (.int (1 : Int32))) :
    MetFree l x (head1 (Jvm.Cond.code x code maxLocals ret :: ws) room_1) (fun a U => a = #[(.int p0)] ∧ Z.Warmed39 U.vm ∧ U.heap = h0) (fun _ _ _ _ _ => True) (fun _ U o U' => ∃ v L, o = .returned v ∧ Q0 Z p0 w_Country_BE w_Country_DE w_Side_ALLIED w_Country_FR w_Country_LU w_Country_NL w_Country_GB w_Side_GERMAN w_Country_CH h0 n0 v U'.heap L ∧ FrameEnd U o U' L room_1.cells room_1.slots) := by
  refine MetFree.of_bodySF (plainFor_of_name pn_0) hisR ?_
  intro p e s m args below meth c s₁ Bd hml0 hP hK
  obtain ⟨rfl, hZ, hh⟩ := hP
  have hx := Bd.exec
  have hby := Bd.bytes
  have hml : c.maxLocals = 5 := hml0
  have hown : s.vm.findClass "com/example/sickle_cut/sicklecut/rules/SideOwningPinLaw" = some m.cls := findClass_of_methodNamed Bd.named
  have hnm := (name_of_methodNamed Bd.named Bd.method).1
  have X0 : Stand p l e room_1 s m #[(.int p0)] below meth c s₁ [] 0 0 := Stand.of_body Bd
  have e0 : s₁.heap = h0 := by rw [← hh, Bd.state]; rfl
  have N0 := Fr.nil n0
  refine own_go (B := s₁.setTop (mkF m 0 (LS_Iuuuu p0) [])) (fun t k => castTop (ef_0 m p0) k) ?_
  refine own_go (B := s₁.setTop (mkF m 7 (LS_Iuuuu p0) [(.int ((p0 &&& (2147483647 : Int32)) % (7 : Int32)))])) (fun t k => ?_) ?_
  · show Steps p.tables e below (s₁.setTop (mkF m 0 (LS_Iuuuu p0) [])) _
    refine XS.iloadN X0.here hx rfl (hb hby at_0) rfl ?_
    show Steps p.tables e below (s₁.setTop (mkF m 1 (LS_Iuuuu p0) [(.int p0)])) _
    refine X0.ldcInt hx hown (mvT hZ (hw _ (List.mem_of_getElem? (i := 0) rfl))) (g := (mkF m 1 (LS_Iuuuu p0) [(.int p0)])) rfl (hb hby at_1) _ ?_
    show Steps p.tables e below (s₁.setTop (mkF m 3 (LS_Iuuuu p0) [(.int (2147483647 : Int32)), (.int p0)])) _
    refine XS.iand X0.here hx rfl (hb hby at_3) rfl ?_
    show Steps p.tables e below (s₁.setTop (mkF m 4 (LS_Iuuuu p0) [(.int (p0 &&& (2147483647 : Int32)))])) _
    refine XS.bipush X0.here hx rfl (hb hby at_4) ?_
    show Steps p.tables e below (s₁.setTop (mkF m 6 (LS_Iuuuu p0) [(.int (7 : Int32)), (.int (p0 &&& (2147483647 : Int32)))])) _
    refine Jvm.RoadKit.iremM X0 hx rfl (hb hby at_6) rfl (by decide) ?_
    exact k
  rcases own_mod7 p0 with hk1 | hk1 | hk1 | hk1 | hk1 | hk1 | hk1
  · rw [hk1]
    refine own_go (B := s₁.setTop (mkF m 9 (LS_IIuuu p0 (0 : Int32)) [(.int (0 : Int32))])) (fun t k => ?_) ?_
    · show Steps p.tables e below (s₁.setTop (mkF m 7 (LS_Iuuuu p0) [(.int (0 : Int32))])) _
      refine XS.istoreN X0.here hx rfl (hb hby at_7) rfl (l' := (LS_IIuuu p0 (0 : Int32))) rfl ?_
      show Steps p.tables e below (s₁.setTop (mkF m 8 (LS_IIuuu p0 (0 : Int32)) [])) _
      refine XS.iloadN X0.here hx rfl (hb hby at_8) rfl ?_
      exact k
    obtain ⟨_, _, ⟨T2, L2, k2, n2⟩, -, X2, ⟨Lc2, hQ2, l2, y2, z2⟩, st2⟩ := Jvm.LawKit.callS X0 hx (y := (⟨"com/example/sickle_cut/sicklecut/rules/SideOwningPinLaw", "pick", "(I)Lcom/example/sickle_cut/sicklecut/map/Country;"⟩ : MethodName)) hown (mvT hZ (hw _ (List.mem_of_getElem? (i := 1) rfl))) (mvT hZ (hw _ (List.mem_of_getElem? (i := 2) rfl))) (mvT hZ (hw _ (List.mem_of_getElem? (i := 3) rfl))) (mvT hZ (hw _ (List.mem_of_getElem? (i := 4) rfl))) (by decide) (backOf (W := 0) (rm1_0 l Z a0 hw [] w_Country_BE h0 n0 Z0 S_Country_BE) hZ (hw _ (List.mem_of_getElem? (i := 4) rfl)) (hw _ (List.mem_of_getElem? (i := 3) rfl)) (by decide) (by decide)) (g := (mkF m 9 (LS_IIuuu p0 (0 : Int32)) [(.int (0 : Int32))])) rfl (by rw [hml]; rfl) (argsL := [(.int (0 : Int32))]) (rest := []) (lenOf pd__I_Lcom_example_sickle_cut_sicklecut_map_Country_ rfl) rfl (by show 2 * 0 + _ ≤ _; exact Nat.le_of_eq rfl) (hb hby at_9) (fun _ _ => ⟨rfl, e0, (by decide : 0 + 0 ≤ _), (by decide : 0 + 0 ≤ _)⟩)
    dsimp only [Pt.U, Pt.locs, Pt.cells, Pt.slots] at X2 l2 y2 z2 st2 hQ2
    subst l2 y2 z2
    obtain ⟨rfl, N2q, e2⟩ := hQ2
    have N2 := Fr.app N0 N2q
    refine own_go (B := T2.setTop (mkF m 12 (LS_IIuuu p0 (0 : Int32)) [(.ref w_Country_BE)])) (fun t k => st2 _ k) ?_
    refine own_go (B := T2.setTop (mkF m 25 (LS_IIRIu p0 (0 : Int32) w_Country_BE (0 : Int32)) [(.ref w_Country_BE)])) (fun t k => ?_) ?_
    · show Steps p.tables e below (T2.setTop (mkF m 12 (LS_IIuuu p0 (0 : Int32)) [(.ref w_Country_BE)])) _
      refine XS.astoreN X2.here hx rfl (hb hby at_12) rfl rfl (l' := (LS_IIRuu p0 (0 : Int32) w_Country_BE)) rfl ?_
      show Steps p.tables e below (T2.setTop (mkF m 13 (LS_IIRuu p0 (0 : Int32) w_Country_BE) [])) _
      refine XS.iloadN X2.here hx rfl (hb hby at_13) rfl ?_
      show Steps p.tables e below (T2.setTop (mkF m 14 (LS_IIRuu p0 (0 : Int32) w_Country_BE) [(.int (0 : Int32))])) _
      refine XS.iconst X2.here hx rfl (hb hby at_14) ?_
      show Steps p.tables e below (T2.setTop (mkF m 15 (LS_IIRuu p0 (0 : Int32) w_Country_BE) [(.int (2 : Int32)), (.int (0 : Int32))])) _
      refine XS.icmpYes X2.here hx rfl (pc0 := 15) (pc' := 22) rfl (hb hby at_15) rfl (feq (by decide : ¬ ((0 : Int32) = (2 : Int32)))).2 (by decide) (by decide) ?_
      show Steps p.tables e below (T2.setTop (mkF m 22 (LS_IIRuu p0 (0 : Int32) w_Country_BE) [])) _
      refine XS.iconst X2.here hx rfl (hb hby at_22) ?_
      show Steps p.tables e below (T2.setTop (mkF m 23 (LS_IIRuu p0 (0 : Int32) w_Country_BE) [(.int (0 : Int32))])) _
      refine XS.istoreN X2.here hx rfl (hb hby at_23) rfl (l' := (LS_IIRIu p0 (0 : Int32) w_Country_BE (0 : Int32))) rfl ?_
      show Steps p.tables e below (T2.setTop (mkF m 24 (LS_IIRIu p0 (0 : Int32) w_Country_BE (0 : Int32)) [])) _
      refine XS.aloadN X2.here hx rfl (hb hby at_24) rfl rfl ?_
      exact k
    obtain ⟨_, _, ⟨T3, L3, k3, n3⟩, -, X3, ⟨Lc3, hQ3, l3, y3, z3⟩, st3⟩ := Jvm.LawKit.callS X2 hx (y := (⟨"com/example/sickle_cut/sicklecut/rules/Side", "owning", "(Lcom/example/sickle_cut/sicklecut/map/Country;)Lcom/example/sickle_cut/sicklecut/rules/Side;"⟩ : MethodName)) hown (mvT hZ (hw _ (List.mem_of_getElem? (i := 8) rfl))) (mvT hZ (hw _ (List.mem_of_getElem? (i := 9) rfl))) (mvT hZ (hw _ (List.mem_of_getElem? (i := 10) rfl))) (mvT hZ (hw _ (List.mem_of_getElem? (i := 11) rfl))) (by decide) (backOf (W := 0) (rm2 l Z a0 hw [] w_Country_BE w_Country_DE w_Side_GERMAN w_Side_ALLIED h0 n0 Z0 S_Country_DE S_Side_GERMAN S_Side_ALLIED) hZ (hw _ (List.mem_of_getElem? (i := 11) rfl)) (hw _ (List.mem_of_getElem? (i := 10) rfl)) (by decide) (by decide)) (g := (mkF m 25 (LS_IIRIu p0 (0 : Int32) w_Country_BE (0 : Int32)) [(.ref w_Country_BE)])) rfl (by rw [hml]; rfl) (argsL := [(.ref w_Country_BE)]) (rest := []) (lenOf pd__Lcom_example_sickle_cut_sicklecut_map_Country__Lcom_example_sickle_cut_sicklecut_rules_Side_ rfl) rfl (by show 2 * 0 + _ ≤ _; exact Nat.le_of_eq rfl) (hb hby at_25) (fun _ _ => ⟨rfl, e2, (by decide : 0 + 0 ≤ _), (by decide : 0 + 0 ≤ _)⟩)
    dsimp only [Pt.U, Pt.locs, Pt.cells, Pt.slots] at X3 l3 y3 z3 st3 hQ3
    subst l3 y3 z3
    obtain ⟨rfl, N3q, e3⟩ := hQ3
    have N3 := Fr.app N2 N3q
    refine own_go (B := T3.setTop (mkF m 28 (LS_IIRIu p0 (0 : Int32) w_Country_BE (0 : Int32)) [(.ref (if w_Country_BE = w_Country_DE then w_Side_GERMAN else w_Side_ALLIED))])) (fun t k => st3 _ k) ?_
    rw [show (if w_Country_BE = w_Country_DE then w_Side_GERMAN else w_Side_ALLIED) = w_Side_ALLIED from if_neg (Fld.ne F_Country_BE_ordinal F_Country_DE_ordinal (by decide))]
    refine own_go (B := T3.setTop (mkF m 50 (LS_IIRIR p0 (0 : Int32) w_Country_BE (0 : Int32) w_Side_ALLIED) [(.ref w_Side_ALLIED)])) (fun t k => ?_) ?_
    · show Steps p.tables e below (T3.setTop (mkF m 28 (LS_IIRIu p0 (0 : Int32) w_Country_BE (0 : Int32)) [(.ref w_Side_ALLIED)])) _
      refine XS.astore X3.here hx rfl (hb hby at_28) rfl rfl (l' := (LS_IIRIR p0 (0 : Int32) w_Country_BE (0 : Int32) w_Side_ALLIED)) rfl ?_
      show Steps p.tables e below (T3.setTop (mkF m 30 (LS_IIRIR p0 (0 : Int32) w_Country_BE (0 : Int32) w_Side_ALLIED) [])) _
      refine XS.iloadN X3.here hx rfl (hb hby at_30) rfl ?_
      show Steps p.tables e below (T3.setTop (mkF m 31 (LS_IIRIR p0 (0 : Int32) w_Country_BE (0 : Int32) w_Side_ALLIED) [(.int (0 : Int32))])) _
      refine XS.ifYes X3.here hx rfl (pc0 := 31) (pc' := 48) rfl (hb hby at_31) rfl ((if0 _ _).trans (teq (by decide : (0 : Int32) = (0 : Int32))).1) (by decide) (by decide) ?_
      show Steps p.tables e below (T3.setTop (mkF m 48 (LS_IIRIR p0 (0 : Int32) w_Country_BE (0 : Int32) w_Side_ALLIED) [])) _
      refine XS.aload X3.here hx rfl (hb hby at_48) rfl rfl ?_
      exact k
    obtain ⟨T4, X4, e4, st4⟩ := getS2 X3 hx hZ hown (host := "") (Or.inl (hw _ (List.mem_of_getElem? (i := 16) rfl))) Via.refl e3 S_Side_ALLIED (g := (mkF m 50 (LS_IIRIR p0 (0 : Int32) w_Country_BE (0 : Int32) w_Side_ALLIED) [(.ref w_Side_ALLIED)])) rfl (hb hby at_50)
    refine own_go (B := T4.setTop (mkF m 53 (LS_IIRIR p0 (0 : Int32) w_Country_BE (0 : Int32) w_Side_ALLIED) [(.ref w_Side_ALLIED), (.ref w_Side_ALLIED)])) (fun t k => st4 _ k) ?_
    refine own_go (B := T4.setTop (mkF m 61 (LS_IIRIR p0 (0 : Int32) w_Country_BE (0 : Int32) w_Side_ALLIED) [(.int (1 : Int32))])) (fun t k => ?_) ?_
    · show Steps p.tables e below (T4.setTop (mkF m 53 (LS_IIRIR p0 (0 : Int32) w_Country_BE (0 : Int32) w_Side_ALLIED) [(.ref w_Side_ALLIED), (.ref w_Side_ALLIED)])) _
      refine Jvm.RoadKit.acmp (g := (mkF m 53 (LS_IIRIR p0 (0 : Int32) w_Country_BE (0 : Int32) w_Side_ALLIED) [(.ref w_Side_ALLIED), (.ref w_Side_ALLIED)])) X4 hx rfl rfl rfl (pc0 := 53) (pc' := 56) (same := true) rfl (hb hby at_53) rfl (decide_eq_true rfl) (by decide) (by decide) ?_
      show Steps p.tables e below (T4.setTop (mkF m 56 (LS_IIRIR p0 (0 : Int32) w_Country_BE (0 : Int32) w_Side_ALLIED) [])) _
      refine XS.iconst X4.here hx rfl (hb hby at_56) ?_
      show Steps p.tables e below (T4.setTop (mkF m 57 (LS_IIRIR p0 (0 : Int32) w_Country_BE (0 : Int32) w_Side_ALLIED) [(.int (1 : Int32))])) _
      refine XS.goto X4.here hx rfl (pc0 := 57) (pc' := 61) rfl (hb hby at_57) (by decide) (by decide) ?_
      exact k
    obtain ⟨fs, hr, hrun, hended, hW, hsame⟩ := X4.leave (v := some (.int (1 : Int32))) (fun h => by rw [Bd.returns] at h; cases h)
    refine ⟨_, _, ?_, hrun, hended, _, _, rfl, ?_, ⟨_, rfl⟩, hW, hsame.mono (by decide) (by decide)⟩
    · show Steps p.tables e below (T4.setTop (mkF m 61 (LS_IIRIR p0 (0 : Int32) w_Country_BE (0 : Int32) w_Side_ALLIED) [(.int (1 : Int32))])) _
      exact retN X4 hx (t := .boolean) Bd.returns (by simp) (hb hby at_61) hr
    · show Q0 Z p0 w_Country_BE w_Country_DE w_Side_ALLIED w_Country_FR w_Country_LU w_Country_NL w_Country_GB w_Side_GERMAN w_Country_CH h0 n0 _ T4.heap _
      rw [e4]
      exact ⟨rfl, N3⟩
  · rw [hk1]
    refine own_go (B := s₁.setTop (mkF m 9 (LS_IIuuu p0 (1 : Int32)) [(.int (1 : Int32))])) (fun t k => ?_) ?_
    · show Steps p.tables e below (s₁.setTop (mkF m 7 (LS_Iuuuu p0) [(.int (1 : Int32))])) _
      refine XS.istoreN X0.here hx rfl (hb hby at_7) rfl (l' := (LS_IIuuu p0 (1 : Int32))) rfl ?_
      show Steps p.tables e below (s₁.setTop (mkF m 8 (LS_IIuuu p0 (1 : Int32)) [])) _
      refine XS.iloadN X0.here hx rfl (hb hby at_8) rfl ?_
      exact k
    obtain ⟨_, _, ⟨T5, L5, k5, n5⟩, -, X5, ⟨Lc5, hQ5, l5, y5, z5⟩, st5⟩ := Jvm.LawKit.callS X0 hx (y := (⟨"com/example/sickle_cut/sicklecut/rules/SideOwningPinLaw", "pick", "(I)Lcom/example/sickle_cut/sicklecut/map/Country;"⟩ : MethodName)) hown (mvT hZ (hw _ (List.mem_of_getElem? (i := 1) rfl))) (mvT hZ (hw _ (List.mem_of_getElem? (i := 2) rfl))) (mvT hZ (hw _ (List.mem_of_getElem? (i := 3) rfl))) (mvT hZ (hw _ (List.mem_of_getElem? (i := 4) rfl))) (by decide) (backOf (W := 0) (rm1_1 l Z a0 hw [] w_Country_CH h0 n0 Z0 S_Country_CH) hZ (hw _ (List.mem_of_getElem? (i := 4) rfl)) (hw _ (List.mem_of_getElem? (i := 3) rfl)) (by decide) (by decide)) (g := (mkF m 9 (LS_IIuuu p0 (1 : Int32)) [(.int (1 : Int32))])) rfl (by rw [hml]; rfl) (argsL := [(.int (1 : Int32))]) (rest := []) (lenOf pd__I_Lcom_example_sickle_cut_sicklecut_map_Country_ rfl) rfl (by show 2 * 0 + _ ≤ _; exact Nat.le_of_eq rfl) (hb hby at_9) (fun _ _ => ⟨rfl, e0, (by decide : 0 + 0 ≤ _), (by decide : 0 + 0 ≤ _)⟩)
    dsimp only [Pt.U, Pt.locs, Pt.cells, Pt.slots] at X5 l5 y5 z5 st5 hQ5
    subst l5 y5 z5
    obtain ⟨rfl, N5q, e5⟩ := hQ5
    have N5 := Fr.app N0 N5q
    refine own_go (B := T5.setTop (mkF m 12 (LS_IIuuu p0 (1 : Int32)) [(.ref w_Country_CH)])) (fun t k => st5 _ k) ?_
    refine own_go (B := T5.setTop (mkF m 25 (LS_IIRIu p0 (1 : Int32) w_Country_CH (0 : Int32)) [(.ref w_Country_CH)])) (fun t k => ?_) ?_
    · show Steps p.tables e below (T5.setTop (mkF m 12 (LS_IIuuu p0 (1 : Int32)) [(.ref w_Country_CH)])) _
      refine XS.astoreN X5.here hx rfl (hb hby at_12) rfl rfl (l' := (LS_IIRuu p0 (1 : Int32) w_Country_CH)) rfl ?_
      show Steps p.tables e below (T5.setTop (mkF m 13 (LS_IIRuu p0 (1 : Int32) w_Country_CH) [])) _
      refine XS.iloadN X5.here hx rfl (hb hby at_13) rfl ?_
      show Steps p.tables e below (T5.setTop (mkF m 14 (LS_IIRuu p0 (1 : Int32) w_Country_CH) [(.int (1 : Int32))])) _
      refine XS.iconst X5.here hx rfl (hb hby at_14) ?_
      show Steps p.tables e below (T5.setTop (mkF m 15 (LS_IIRuu p0 (1 : Int32) w_Country_CH) [(.int (2 : Int32)), (.int (1 : Int32))])) _
      refine XS.icmpYes X5.here hx rfl (pc0 := 15) (pc' := 22) rfl (hb hby at_15) rfl (feq (by decide : ¬ ((1 : Int32) = (2 : Int32)))).2 (by decide) (by decide) ?_
      show Steps p.tables e below (T5.setTop (mkF m 22 (LS_IIRuu p0 (1 : Int32) w_Country_CH) [])) _
      refine XS.iconst X5.here hx rfl (hb hby at_22) ?_
      show Steps p.tables e below (T5.setTop (mkF m 23 (LS_IIRuu p0 (1 : Int32) w_Country_CH) [(.int (0 : Int32))])) _
      refine XS.istoreN X5.here hx rfl (hb hby at_23) rfl (l' := (LS_IIRIu p0 (1 : Int32) w_Country_CH (0 : Int32))) rfl ?_
      show Steps p.tables e below (T5.setTop (mkF m 24 (LS_IIRIu p0 (1 : Int32) w_Country_CH (0 : Int32)) [])) _
      refine XS.aloadN X5.here hx rfl (hb hby at_24) rfl rfl ?_
      exact k
    obtain ⟨_, _, ⟨T6, L6, k6, n6⟩, -, X6, ⟨Lc6, hQ6, l6, y6, z6⟩, st6⟩ := Jvm.LawKit.callS X5 hx (y := (⟨"com/example/sickle_cut/sicklecut/rules/Side", "owning", "(Lcom/example/sickle_cut/sicklecut/map/Country;)Lcom/example/sickle_cut/sicklecut/rules/Side;"⟩ : MethodName)) hown (mvT hZ (hw _ (List.mem_of_getElem? (i := 8) rfl))) (mvT hZ (hw _ (List.mem_of_getElem? (i := 9) rfl))) (mvT hZ (hw _ (List.mem_of_getElem? (i := 10) rfl))) (mvT hZ (hw _ (List.mem_of_getElem? (i := 11) rfl))) (by decide) (backOf (W := 0) (rm2 l Z a0 hw [] w_Country_CH w_Country_DE w_Side_GERMAN w_Side_ALLIED h0 n0 Z0 S_Country_DE S_Side_GERMAN S_Side_ALLIED) hZ (hw _ (List.mem_of_getElem? (i := 11) rfl)) (hw _ (List.mem_of_getElem? (i := 10) rfl)) (by decide) (by decide)) (g := (mkF m 25 (LS_IIRIu p0 (1 : Int32) w_Country_CH (0 : Int32)) [(.ref w_Country_CH)])) rfl (by rw [hml]; rfl) (argsL := [(.ref w_Country_CH)]) (rest := []) (lenOf pd__Lcom_example_sickle_cut_sicklecut_map_Country__Lcom_example_sickle_cut_sicklecut_rules_Side_ rfl) rfl (by show 2 * 0 + _ ≤ _; exact Nat.le_of_eq rfl) (hb hby at_25) (fun _ _ => ⟨rfl, e5, (by decide : 0 + 0 ≤ _), (by decide : 0 + 0 ≤ _)⟩)
    dsimp only [Pt.U, Pt.locs, Pt.cells, Pt.slots] at X6 l6 y6 z6 st6 hQ6
    subst l6 y6 z6
    obtain ⟨rfl, N6q, e6⟩ := hQ6
    have N6 := Fr.app N5 N6q
    refine own_go (B := T6.setTop (mkF m 28 (LS_IIRIu p0 (1 : Int32) w_Country_CH (0 : Int32)) [(.ref (if w_Country_CH = w_Country_DE then w_Side_GERMAN else w_Side_ALLIED))])) (fun t k => st6 _ k) ?_
    rw [show (if w_Country_CH = w_Country_DE then w_Side_GERMAN else w_Side_ALLIED) = w_Side_ALLIED from if_neg (Fld.ne F_Country_CH_ordinal F_Country_DE_ordinal (by decide))]
    refine own_go (B := T6.setTop (mkF m 50 (LS_IIRIR p0 (1 : Int32) w_Country_CH (0 : Int32) w_Side_ALLIED) [(.ref w_Side_ALLIED)])) (fun t k => ?_) ?_
    · show Steps p.tables e below (T6.setTop (mkF m 28 (LS_IIRIu p0 (1 : Int32) w_Country_CH (0 : Int32)) [(.ref w_Side_ALLIED)])) _
      refine XS.astore X6.here hx rfl (hb hby at_28) rfl rfl (l' := (LS_IIRIR p0 (1 : Int32) w_Country_CH (0 : Int32) w_Side_ALLIED)) rfl ?_
      show Steps p.tables e below (T6.setTop (mkF m 30 (LS_IIRIR p0 (1 : Int32) w_Country_CH (0 : Int32) w_Side_ALLIED) [])) _
      refine XS.iloadN X6.here hx rfl (hb hby at_30) rfl ?_
      show Steps p.tables e below (T6.setTop (mkF m 31 (LS_IIRIR p0 (1 : Int32) w_Country_CH (0 : Int32) w_Side_ALLIED) [(.int (0 : Int32))])) _
      refine XS.ifYes X6.here hx rfl (pc0 := 31) (pc' := 48) rfl (hb hby at_31) rfl ((if0 _ _).trans (teq (by decide : (0 : Int32) = (0 : Int32))).1) (by decide) (by decide) ?_
      show Steps p.tables e below (T6.setTop (mkF m 48 (LS_IIRIR p0 (1 : Int32) w_Country_CH (0 : Int32) w_Side_ALLIED) [])) _
      refine XS.aload X6.here hx rfl (hb hby at_48) rfl rfl ?_
      exact k
    obtain ⟨T7, X7, e7, st7⟩ := getS2 X6 hx hZ hown (host := "") (Or.inl (hw _ (List.mem_of_getElem? (i := 16) rfl))) Via.refl e6 S_Side_ALLIED (g := (mkF m 50 (LS_IIRIR p0 (1 : Int32) w_Country_CH (0 : Int32) w_Side_ALLIED) [(.ref w_Side_ALLIED)])) rfl (hb hby at_50)
    refine own_go (B := T7.setTop (mkF m 53 (LS_IIRIR p0 (1 : Int32) w_Country_CH (0 : Int32) w_Side_ALLIED) [(.ref w_Side_ALLIED), (.ref w_Side_ALLIED)])) (fun t k => st7 _ k) ?_
    refine own_go (B := T7.setTop (mkF m 61 (LS_IIRIR p0 (1 : Int32) w_Country_CH (0 : Int32) w_Side_ALLIED) [(.int (1 : Int32))])) (fun t k => ?_) ?_
    · show Steps p.tables e below (T7.setTop (mkF m 53 (LS_IIRIR p0 (1 : Int32) w_Country_CH (0 : Int32) w_Side_ALLIED) [(.ref w_Side_ALLIED), (.ref w_Side_ALLIED)])) _
      refine Jvm.RoadKit.acmp (g := (mkF m 53 (LS_IIRIR p0 (1 : Int32) w_Country_CH (0 : Int32) w_Side_ALLIED) [(.ref w_Side_ALLIED), (.ref w_Side_ALLIED)])) X7 hx rfl rfl rfl (pc0 := 53) (pc' := 56) (same := true) rfl (hb hby at_53) rfl (decide_eq_true rfl) (by decide) (by decide) ?_
      show Steps p.tables e below (T7.setTop (mkF m 56 (LS_IIRIR p0 (1 : Int32) w_Country_CH (0 : Int32) w_Side_ALLIED) [])) _
      refine XS.iconst X7.here hx rfl (hb hby at_56) ?_
      show Steps p.tables e below (T7.setTop (mkF m 57 (LS_IIRIR p0 (1 : Int32) w_Country_CH (0 : Int32) w_Side_ALLIED) [(.int (1 : Int32))])) _
      refine XS.goto X7.here hx rfl (pc0 := 57) (pc' := 61) rfl (hb hby at_57) (by decide) (by decide) ?_
      exact k
    obtain ⟨fs, hr, hrun, hended, hW, hsame⟩ := X7.leave (v := some (.int (1 : Int32))) (fun h => by rw [Bd.returns] at h; cases h)
    refine ⟨_, _, ?_, hrun, hended, _, _, rfl, ?_, ⟨_, rfl⟩, hW, hsame.mono (by decide) (by decide)⟩
    · show Steps p.tables e below (T7.setTop (mkF m 61 (LS_IIRIR p0 (1 : Int32) w_Country_CH (0 : Int32) w_Side_ALLIED) [(.int (1 : Int32))])) _
      exact retN X7 hx (t := .boolean) Bd.returns (by simp) (hb hby at_61) hr
    · show Q0 Z p0 w_Country_BE w_Country_DE w_Side_ALLIED w_Country_FR w_Country_LU w_Country_NL w_Country_GB w_Side_GERMAN w_Country_CH h0 n0 _ T7.heap _
      rw [e7]
      exact ⟨rfl, N6⟩
  · rw [hk1]
    refine own_go (B := s₁.setTop (mkF m 9 (LS_IIuuu p0 (2 : Int32)) [(.int (2 : Int32))])) (fun t k => ?_) ?_
    · show Steps p.tables e below (s₁.setTop (mkF m 7 (LS_Iuuuu p0) [(.int (2 : Int32))])) _
      refine XS.istoreN X0.here hx rfl (hb hby at_7) rfl (l' := (LS_IIuuu p0 (2 : Int32))) rfl ?_
      show Steps p.tables e below (s₁.setTop (mkF m 8 (LS_IIuuu p0 (2 : Int32)) [])) _
      refine XS.iloadN X0.here hx rfl (hb hby at_8) rfl ?_
      exact k
    obtain ⟨_, _, ⟨T8, L8, k8, n8⟩, -, X8, ⟨Lc8, hQ8, l8, y8, z8⟩, st8⟩ := Jvm.LawKit.callS X0 hx (y := (⟨"com/example/sickle_cut/sicklecut/rules/SideOwningPinLaw", "pick", "(I)Lcom/example/sickle_cut/sicklecut/map/Country;"⟩ : MethodName)) hown (mvT hZ (hw _ (List.mem_of_getElem? (i := 1) rfl))) (mvT hZ (hw _ (List.mem_of_getElem? (i := 2) rfl))) (mvT hZ (hw _ (List.mem_of_getElem? (i := 3) rfl))) (mvT hZ (hw _ (List.mem_of_getElem? (i := 4) rfl))) (by decide) (backOf (W := 0) (rm1_2 l Z a0 hw [] w_Country_DE h0 n0 Z0 S_Country_DE) hZ (hw _ (List.mem_of_getElem? (i := 4) rfl)) (hw _ (List.mem_of_getElem? (i := 3) rfl)) (by decide) (by decide)) (g := (mkF m 9 (LS_IIuuu p0 (2 : Int32)) [(.int (2 : Int32))])) rfl (by rw [hml]; rfl) (argsL := [(.int (2 : Int32))]) (rest := []) (lenOf pd__I_Lcom_example_sickle_cut_sicklecut_map_Country_ rfl) rfl (by show 2 * 0 + _ ≤ _; exact Nat.le_of_eq rfl) (hb hby at_9) (fun _ _ => ⟨rfl, e0, (by decide : 0 + 0 ≤ _), (by decide : 0 + 0 ≤ _)⟩)
    dsimp only [Pt.U, Pt.locs, Pt.cells, Pt.slots] at X8 l8 y8 z8 st8 hQ8
    subst l8 y8 z8
    obtain ⟨rfl, N8q, e8⟩ := hQ8
    have N8 := Fr.app N0 N8q
    refine own_go (B := T8.setTop (mkF m 12 (LS_IIuuu p0 (2 : Int32)) [(.ref w_Country_DE)])) (fun t k => st8 _ k) ?_
    refine own_go (B := T8.setTop (mkF m 25 (LS_IIRIu p0 (2 : Int32) w_Country_DE (1 : Int32)) [(.ref w_Country_DE)])) (fun t k => ?_) ?_
    · show Steps p.tables e below (T8.setTop (mkF m 12 (LS_IIuuu p0 (2 : Int32)) [(.ref w_Country_DE)])) _
      refine XS.astoreN X8.here hx rfl (hb hby at_12) rfl rfl (l' := (LS_IIRuu p0 (2 : Int32) w_Country_DE)) rfl ?_
      show Steps p.tables e below (T8.setTop (mkF m 13 (LS_IIRuu p0 (2 : Int32) w_Country_DE) [])) _
      refine XS.iloadN X8.here hx rfl (hb hby at_13) rfl ?_
      show Steps p.tables e below (T8.setTop (mkF m 14 (LS_IIRuu p0 (2 : Int32) w_Country_DE) [(.int (2 : Int32))])) _
      refine XS.iconst X8.here hx rfl (hb hby at_14) ?_
      show Steps p.tables e below (T8.setTop (mkF m 15 (LS_IIRuu p0 (2 : Int32) w_Country_DE) [(.int (2 : Int32)), (.int (2 : Int32))])) _
      refine XS.icmpNo X8.here hx rfl (hb hby at_15) rfl (teq (by decide : (2 : Int32) = (2 : Int32))).2 ?_
      show Steps p.tables e below (T8.setTop (mkF m 18 (LS_IIRuu p0 (2 : Int32) w_Country_DE) [])) _
      refine XS.iconst X8.here hx rfl (hb hby at_18) ?_
      show Steps p.tables e below (T8.setTop (mkF m 19 (LS_IIRuu p0 (2 : Int32) w_Country_DE) [(.int (1 : Int32))])) _
      refine XS.goto X8.here hx rfl (pc0 := 19) (pc' := 23) rfl (hb hby at_19) (by decide) (by decide) ?_
      show Steps p.tables e below (T8.setTop (mkF m 23 (LS_IIRuu p0 (2 : Int32) w_Country_DE) [(.int (1 : Int32))])) _
      refine XS.istoreN X8.here hx rfl (hb hby at_23) rfl (l' := (LS_IIRIu p0 (2 : Int32) w_Country_DE (1 : Int32))) rfl ?_
      show Steps p.tables e below (T8.setTop (mkF m 24 (LS_IIRIu p0 (2 : Int32) w_Country_DE (1 : Int32)) [])) _
      refine XS.aloadN X8.here hx rfl (hb hby at_24) rfl rfl ?_
      exact k
    obtain ⟨_, _, ⟨T9, L9, k9, n9⟩, -, X9, ⟨Lc9, hQ9, l9, y9, z9⟩, st9⟩ := Jvm.LawKit.callS X8 hx (y := (⟨"com/example/sickle_cut/sicklecut/rules/Side", "owning", "(Lcom/example/sickle_cut/sicklecut/map/Country;)Lcom/example/sickle_cut/sicklecut/rules/Side;"⟩ : MethodName)) hown (mvT hZ (hw _ (List.mem_of_getElem? (i := 8) rfl))) (mvT hZ (hw _ (List.mem_of_getElem? (i := 9) rfl))) (mvT hZ (hw _ (List.mem_of_getElem? (i := 10) rfl))) (mvT hZ (hw _ (List.mem_of_getElem? (i := 11) rfl))) (by decide) (backOf (W := 0) (rm2 l Z a0 hw [] w_Country_DE w_Country_DE w_Side_GERMAN w_Side_ALLIED h0 n0 Z0 S_Country_DE S_Side_GERMAN S_Side_ALLIED) hZ (hw _ (List.mem_of_getElem? (i := 11) rfl)) (hw _ (List.mem_of_getElem? (i := 10) rfl)) (by decide) (by decide)) (g := (mkF m 25 (LS_IIRIu p0 (2 : Int32) w_Country_DE (1 : Int32)) [(.ref w_Country_DE)])) rfl (by rw [hml]; rfl) (argsL := [(.ref w_Country_DE)]) (rest := []) (lenOf pd__Lcom_example_sickle_cut_sicklecut_map_Country__Lcom_example_sickle_cut_sicklecut_rules_Side_ rfl) rfl (by show 2 * 0 + _ ≤ _; exact Nat.le_of_eq rfl) (hb hby at_25) (fun _ _ => ⟨rfl, e8, (by decide : 0 + 0 ≤ _), (by decide : 0 + 0 ≤ _)⟩)
    dsimp only [Pt.U, Pt.locs, Pt.cells, Pt.slots] at X9 l9 y9 z9 st9 hQ9
    subst l9 y9 z9
    obtain ⟨rfl, N9q, e9⟩ := hQ9
    have N9 := Fr.app N8 N9q
    refine own_go (B := T9.setTop (mkF m 28 (LS_IIRIu p0 (2 : Int32) w_Country_DE (1 : Int32)) [(.ref (if w_Country_DE = w_Country_DE then w_Side_GERMAN else w_Side_ALLIED))])) (fun t k => st9 _ k) ?_
    rw [show (if w_Country_DE = w_Country_DE then w_Side_GERMAN else w_Side_ALLIED) = w_Side_GERMAN from if_pos rfl]
    refine own_go (B := T9.setTop (mkF m 36 (LS_IIRIR p0 (2 : Int32) w_Country_DE (1 : Int32) w_Side_GERMAN) [(.ref w_Side_GERMAN)])) (fun t k => ?_) ?_
    · show Steps p.tables e below (T9.setTop (mkF m 28 (LS_IIRIu p0 (2 : Int32) w_Country_DE (1 : Int32)) [(.ref w_Side_GERMAN)])) _
      refine XS.astore X9.here hx rfl (hb hby at_28) rfl rfl (l' := (LS_IIRIR p0 (2 : Int32) w_Country_DE (1 : Int32) w_Side_GERMAN)) rfl ?_
      show Steps p.tables e below (T9.setTop (mkF m 30 (LS_IIRIR p0 (2 : Int32) w_Country_DE (1 : Int32) w_Side_GERMAN) [])) _
      refine XS.iloadN X9.here hx rfl (hb hby at_30) rfl ?_
      show Steps p.tables e below (T9.setTop (mkF m 31 (LS_IIRIR p0 (2 : Int32) w_Country_DE (1 : Int32) w_Side_GERMAN) [(.int (1 : Int32))])) _
      refine XS.ifNo X9.here hx rfl (hb hby at_31) rfl ((if0 _ _).trans (feq (by decide : ¬ ((1 : Int32) = (0 : Int32)))).1) ?_
      show Steps p.tables e below (T9.setTop (mkF m 34 (LS_IIRIR p0 (2 : Int32) w_Country_DE (1 : Int32) w_Side_GERMAN) [])) _
      refine XS.aload X9.here hx rfl (hb hby at_34) rfl rfl ?_
      exact k
    obtain ⟨T10, X10, e10, st10⟩ := getS2 X9 hx hZ hown (host := "") (Or.inl (hw _ (List.mem_of_getElem? (i := 28) rfl))) Via.refl e9 S_Side_GERMAN (g := (mkF m 36 (LS_IIRIR p0 (2 : Int32) w_Country_DE (1 : Int32) w_Side_GERMAN) [(.ref w_Side_GERMAN)])) rfl (hb hby at_36)
    refine own_go (B := T10.setTop (mkF m 39 (LS_IIRIR p0 (2 : Int32) w_Country_DE (1 : Int32) w_Side_GERMAN) [(.ref w_Side_GERMAN), (.ref w_Side_GERMAN)])) (fun t k => st10 _ k) ?_
    refine own_go (B := T10.setTop (mkF m 47 (LS_IIRIR p0 (2 : Int32) w_Country_DE (1 : Int32) w_Side_GERMAN) [(.int (1 : Int32))])) (fun t k => ?_) ?_
    · show Steps p.tables e below (T10.setTop (mkF m 39 (LS_IIRIR p0 (2 : Int32) w_Country_DE (1 : Int32) w_Side_GERMAN) [(.ref w_Side_GERMAN), (.ref w_Side_GERMAN)])) _
      refine Jvm.RoadKit.acmp (g := (mkF m 39 (LS_IIRIR p0 (2 : Int32) w_Country_DE (1 : Int32) w_Side_GERMAN) [(.ref w_Side_GERMAN), (.ref w_Side_GERMAN)])) X10 hx rfl rfl rfl (pc0 := 39) (pc' := 42) (same := true) rfl (hb hby at_39) rfl (decide_eq_true rfl) (by decide) (by decide) ?_
      show Steps p.tables e below (T10.setTop (mkF m 42 (LS_IIRIR p0 (2 : Int32) w_Country_DE (1 : Int32) w_Side_GERMAN) [])) _
      refine XS.iconst X10.here hx rfl (hb hby at_42) ?_
      show Steps p.tables e below (T10.setTop (mkF m 43 (LS_IIRIR p0 (2 : Int32) w_Country_DE (1 : Int32) w_Side_GERMAN) [(.int (1 : Int32))])) _
      refine XS.goto X10.here hx rfl (pc0 := 43) (pc' := 47) rfl (hb hby at_43) (by decide) (by decide) ?_
      exact k
    obtain ⟨fs, hr, hrun, hended, hW, hsame⟩ := X10.leave (v := some (.int (1 : Int32))) (fun h => by rw [Bd.returns] at h; cases h)
    refine ⟨_, _, ?_, hrun, hended, _, _, rfl, ?_, ⟨_, rfl⟩, hW, hsame.mono (by decide) (by decide)⟩
    · show Steps p.tables e below (T10.setTop (mkF m 47 (LS_IIRIR p0 (2 : Int32) w_Country_DE (1 : Int32) w_Side_GERMAN) [(.int (1 : Int32))])) _
      exact retN X10 hx (t := .boolean) Bd.returns (by simp) (hb hby at_47) hr
    · show Q0 Z p0 w_Country_BE w_Country_DE w_Side_ALLIED w_Country_FR w_Country_LU w_Country_NL w_Country_GB w_Side_GERMAN w_Country_CH h0 n0 _ T10.heap _
      rw [e10]
      exact ⟨rfl, N9⟩
  · rw [hk1]
    refine own_go (B := s₁.setTop (mkF m 9 (LS_IIuuu p0 (3 : Int32)) [(.int (3 : Int32))])) (fun t k => ?_) ?_
    · show Steps p.tables e below (s₁.setTop (mkF m 7 (LS_Iuuuu p0) [(.int (3 : Int32))])) _
      refine XS.istoreN X0.here hx rfl (hb hby at_7) rfl (l' := (LS_IIuuu p0 (3 : Int32))) rfl ?_
      show Steps p.tables e below (s₁.setTop (mkF m 8 (LS_IIuuu p0 (3 : Int32)) [])) _
      refine XS.iloadN X0.here hx rfl (hb hby at_8) rfl ?_
      exact k
    obtain ⟨_, _, ⟨T11, L11, k11, n11⟩, -, X11, ⟨Lc11, hQ11, l11, y11, z11⟩, st11⟩ := Jvm.LawKit.callS X0 hx (y := (⟨"com/example/sickle_cut/sicklecut/rules/SideOwningPinLaw", "pick", "(I)Lcom/example/sickle_cut/sicklecut/map/Country;"⟩ : MethodName)) hown (mvT hZ (hw _ (List.mem_of_getElem? (i := 1) rfl))) (mvT hZ (hw _ (List.mem_of_getElem? (i := 2) rfl))) (mvT hZ (hw _ (List.mem_of_getElem? (i := 3) rfl))) (mvT hZ (hw _ (List.mem_of_getElem? (i := 4) rfl))) (by decide) (backOf (W := 0) (rm1_3 l Z a0 hw [] w_Country_FR h0 n0 Z0 S_Country_FR) hZ (hw _ (List.mem_of_getElem? (i := 4) rfl)) (hw _ (List.mem_of_getElem? (i := 3) rfl)) (by decide) (by decide)) (g := (mkF m 9 (LS_IIuuu p0 (3 : Int32)) [(.int (3 : Int32))])) rfl (by rw [hml]; rfl) (argsL := [(.int (3 : Int32))]) (rest := []) (lenOf pd__I_Lcom_example_sickle_cut_sicklecut_map_Country_ rfl) rfl (by show 2 * 0 + _ ≤ _; exact Nat.le_of_eq rfl) (hb hby at_9) (fun _ _ => ⟨rfl, e0, (by decide : 0 + 0 ≤ _), (by decide : 0 + 0 ≤ _)⟩)
    dsimp only [Pt.U, Pt.locs, Pt.cells, Pt.slots] at X11 l11 y11 z11 st11 hQ11
    subst l11 y11 z11
    obtain ⟨rfl, N11q, e11⟩ := hQ11
    have N11 := Fr.app N0 N11q
    refine own_go (B := T11.setTop (mkF m 12 (LS_IIuuu p0 (3 : Int32)) [(.ref w_Country_FR)])) (fun t k => st11 _ k) ?_
    refine own_go (B := T11.setTop (mkF m 25 (LS_IIRIu p0 (3 : Int32) w_Country_FR (0 : Int32)) [(.ref w_Country_FR)])) (fun t k => ?_) ?_
    · show Steps p.tables e below (T11.setTop (mkF m 12 (LS_IIuuu p0 (3 : Int32)) [(.ref w_Country_FR)])) _
      refine XS.astoreN X11.here hx rfl (hb hby at_12) rfl rfl (l' := (LS_IIRuu p0 (3 : Int32) w_Country_FR)) rfl ?_
      show Steps p.tables e below (T11.setTop (mkF m 13 (LS_IIRuu p0 (3 : Int32) w_Country_FR) [])) _
      refine XS.iloadN X11.here hx rfl (hb hby at_13) rfl ?_
      show Steps p.tables e below (T11.setTop (mkF m 14 (LS_IIRuu p0 (3 : Int32) w_Country_FR) [(.int (3 : Int32))])) _
      refine XS.iconst X11.here hx rfl (hb hby at_14) ?_
      show Steps p.tables e below (T11.setTop (mkF m 15 (LS_IIRuu p0 (3 : Int32) w_Country_FR) [(.int (2 : Int32)), (.int (3 : Int32))])) _
      refine XS.icmpYes X11.here hx rfl (pc0 := 15) (pc' := 22) rfl (hb hby at_15) rfl (feq (by decide : ¬ ((3 : Int32) = (2 : Int32)))).2 (by decide) (by decide) ?_
      show Steps p.tables e below (T11.setTop (mkF m 22 (LS_IIRuu p0 (3 : Int32) w_Country_FR) [])) _
      refine XS.iconst X11.here hx rfl (hb hby at_22) ?_
      show Steps p.tables e below (T11.setTop (mkF m 23 (LS_IIRuu p0 (3 : Int32) w_Country_FR) [(.int (0 : Int32))])) _
      refine XS.istoreN X11.here hx rfl (hb hby at_23) rfl (l' := (LS_IIRIu p0 (3 : Int32) w_Country_FR (0 : Int32))) rfl ?_
      show Steps p.tables e below (T11.setTop (mkF m 24 (LS_IIRIu p0 (3 : Int32) w_Country_FR (0 : Int32)) [])) _
      refine XS.aloadN X11.here hx rfl (hb hby at_24) rfl rfl ?_
      exact k
    obtain ⟨_, _, ⟨T12, L12, k12, n12⟩, -, X12, ⟨Lc12, hQ12, l12, y12, z12⟩, st12⟩ := Jvm.LawKit.callS X11 hx (y := (⟨"com/example/sickle_cut/sicklecut/rules/Side", "owning", "(Lcom/example/sickle_cut/sicklecut/map/Country;)Lcom/example/sickle_cut/sicklecut/rules/Side;"⟩ : MethodName)) hown (mvT hZ (hw _ (List.mem_of_getElem? (i := 8) rfl))) (mvT hZ (hw _ (List.mem_of_getElem? (i := 9) rfl))) (mvT hZ (hw _ (List.mem_of_getElem? (i := 10) rfl))) (mvT hZ (hw _ (List.mem_of_getElem? (i := 11) rfl))) (by decide) (backOf (W := 0) (rm2 l Z a0 hw [] w_Country_FR w_Country_DE w_Side_GERMAN w_Side_ALLIED h0 n0 Z0 S_Country_DE S_Side_GERMAN S_Side_ALLIED) hZ (hw _ (List.mem_of_getElem? (i := 11) rfl)) (hw _ (List.mem_of_getElem? (i := 10) rfl)) (by decide) (by decide)) (g := (mkF m 25 (LS_IIRIu p0 (3 : Int32) w_Country_FR (0 : Int32)) [(.ref w_Country_FR)])) rfl (by rw [hml]; rfl) (argsL := [(.ref w_Country_FR)]) (rest := []) (lenOf pd__Lcom_example_sickle_cut_sicklecut_map_Country__Lcom_example_sickle_cut_sicklecut_rules_Side_ rfl) rfl (by show 2 * 0 + _ ≤ _; exact Nat.le_of_eq rfl) (hb hby at_25) (fun _ _ => ⟨rfl, e11, (by decide : 0 + 0 ≤ _), (by decide : 0 + 0 ≤ _)⟩)
    dsimp only [Pt.U, Pt.locs, Pt.cells, Pt.slots] at X12 l12 y12 z12 st12 hQ12
    subst l12 y12 z12
    obtain ⟨rfl, N12q, e12⟩ := hQ12
    have N12 := Fr.app N11 N12q
    refine own_go (B := T12.setTop (mkF m 28 (LS_IIRIu p0 (3 : Int32) w_Country_FR (0 : Int32)) [(.ref (if w_Country_FR = w_Country_DE then w_Side_GERMAN else w_Side_ALLIED))])) (fun t k => st12 _ k) ?_
    rw [show (if w_Country_FR = w_Country_DE then w_Side_GERMAN else w_Side_ALLIED) = w_Side_ALLIED from if_neg (Fld.ne F_Country_FR_ordinal F_Country_DE_ordinal (by decide))]
    refine own_go (B := T12.setTop (mkF m 50 (LS_IIRIR p0 (3 : Int32) w_Country_FR (0 : Int32) w_Side_ALLIED) [(.ref w_Side_ALLIED)])) (fun t k => ?_) ?_
    · show Steps p.tables e below (T12.setTop (mkF m 28 (LS_IIRIu p0 (3 : Int32) w_Country_FR (0 : Int32)) [(.ref w_Side_ALLIED)])) _
      refine XS.astore X12.here hx rfl (hb hby at_28) rfl rfl (l' := (LS_IIRIR p0 (3 : Int32) w_Country_FR (0 : Int32) w_Side_ALLIED)) rfl ?_
      show Steps p.tables e below (T12.setTop (mkF m 30 (LS_IIRIR p0 (3 : Int32) w_Country_FR (0 : Int32) w_Side_ALLIED) [])) _
      refine XS.iloadN X12.here hx rfl (hb hby at_30) rfl ?_
      show Steps p.tables e below (T12.setTop (mkF m 31 (LS_IIRIR p0 (3 : Int32) w_Country_FR (0 : Int32) w_Side_ALLIED) [(.int (0 : Int32))])) _
      refine XS.ifYes X12.here hx rfl (pc0 := 31) (pc' := 48) rfl (hb hby at_31) rfl ((if0 _ _).trans (teq (by decide : (0 : Int32) = (0 : Int32))).1) (by decide) (by decide) ?_
      show Steps p.tables e below (T12.setTop (mkF m 48 (LS_IIRIR p0 (3 : Int32) w_Country_FR (0 : Int32) w_Side_ALLIED) [])) _
      refine XS.aload X12.here hx rfl (hb hby at_48) rfl rfl ?_
      exact k
    obtain ⟨T13, X13, e13, st13⟩ := getS2 X12 hx hZ hown (host := "") (Or.inl (hw _ (List.mem_of_getElem? (i := 16) rfl))) Via.refl e12 S_Side_ALLIED (g := (mkF m 50 (LS_IIRIR p0 (3 : Int32) w_Country_FR (0 : Int32) w_Side_ALLIED) [(.ref w_Side_ALLIED)])) rfl (hb hby at_50)
    refine own_go (B := T13.setTop (mkF m 53 (LS_IIRIR p0 (3 : Int32) w_Country_FR (0 : Int32) w_Side_ALLIED) [(.ref w_Side_ALLIED), (.ref w_Side_ALLIED)])) (fun t k => st13 _ k) ?_
    refine own_go (B := T13.setTop (mkF m 61 (LS_IIRIR p0 (3 : Int32) w_Country_FR (0 : Int32) w_Side_ALLIED) [(.int (1 : Int32))])) (fun t k => ?_) ?_
    · show Steps p.tables e below (T13.setTop (mkF m 53 (LS_IIRIR p0 (3 : Int32) w_Country_FR (0 : Int32) w_Side_ALLIED) [(.ref w_Side_ALLIED), (.ref w_Side_ALLIED)])) _
      refine Jvm.RoadKit.acmp (g := (mkF m 53 (LS_IIRIR p0 (3 : Int32) w_Country_FR (0 : Int32) w_Side_ALLIED) [(.ref w_Side_ALLIED), (.ref w_Side_ALLIED)])) X13 hx rfl rfl rfl (pc0 := 53) (pc' := 56) (same := true) rfl (hb hby at_53) rfl (decide_eq_true rfl) (by decide) (by decide) ?_
      show Steps p.tables e below (T13.setTop (mkF m 56 (LS_IIRIR p0 (3 : Int32) w_Country_FR (0 : Int32) w_Side_ALLIED) [])) _
      refine XS.iconst X13.here hx rfl (hb hby at_56) ?_
      show Steps p.tables e below (T13.setTop (mkF m 57 (LS_IIRIR p0 (3 : Int32) w_Country_FR (0 : Int32) w_Side_ALLIED) [(.int (1 : Int32))])) _
      refine XS.goto X13.here hx rfl (pc0 := 57) (pc' := 61) rfl (hb hby at_57) (by decide) (by decide) ?_
      exact k
    obtain ⟨fs, hr, hrun, hended, hW, hsame⟩ := X13.leave (v := some (.int (1 : Int32))) (fun h => by rw [Bd.returns] at h; cases h)
    refine ⟨_, _, ?_, hrun, hended, _, _, rfl, ?_, ⟨_, rfl⟩, hW, hsame.mono (by decide) (by decide)⟩
    · show Steps p.tables e below (T13.setTop (mkF m 61 (LS_IIRIR p0 (3 : Int32) w_Country_FR (0 : Int32) w_Side_ALLIED) [(.int (1 : Int32))])) _
      exact retN X13 hx (t := .boolean) Bd.returns (by simp) (hb hby at_61) hr
    · show Q0 Z p0 w_Country_BE w_Country_DE w_Side_ALLIED w_Country_FR w_Country_LU w_Country_NL w_Country_GB w_Side_GERMAN w_Country_CH h0 n0 _ T13.heap _
      rw [e13]
      exact ⟨rfl, N12⟩
  · rw [hk1]
    refine own_go (B := s₁.setTop (mkF m 9 (LS_IIuuu p0 (4 : Int32)) [(.int (4 : Int32))])) (fun t k => ?_) ?_
    · show Steps p.tables e below (s₁.setTop (mkF m 7 (LS_Iuuuu p0) [(.int (4 : Int32))])) _
      refine XS.istoreN X0.here hx rfl (hb hby at_7) rfl (l' := (LS_IIuuu p0 (4 : Int32))) rfl ?_
      show Steps p.tables e below (s₁.setTop (mkF m 8 (LS_IIuuu p0 (4 : Int32)) [])) _
      refine XS.iloadN X0.here hx rfl (hb hby at_8) rfl ?_
      exact k
    obtain ⟨_, _, ⟨T14, L14, k14, n14⟩, -, X14, ⟨Lc14, hQ14, l14, y14, z14⟩, st14⟩ := Jvm.LawKit.callS X0 hx (y := (⟨"com/example/sickle_cut/sicklecut/rules/SideOwningPinLaw", "pick", "(I)Lcom/example/sickle_cut/sicklecut/map/Country;"⟩ : MethodName)) hown (mvT hZ (hw _ (List.mem_of_getElem? (i := 1) rfl))) (mvT hZ (hw _ (List.mem_of_getElem? (i := 2) rfl))) (mvT hZ (hw _ (List.mem_of_getElem? (i := 3) rfl))) (mvT hZ (hw _ (List.mem_of_getElem? (i := 4) rfl))) (by decide) (backOf (W := 0) (rm1_4 l Z a0 hw [] w_Country_GB h0 n0 Z0 S_Country_GB) hZ (hw _ (List.mem_of_getElem? (i := 4) rfl)) (hw _ (List.mem_of_getElem? (i := 3) rfl)) (by decide) (by decide)) (g := (mkF m 9 (LS_IIuuu p0 (4 : Int32)) [(.int (4 : Int32))])) rfl (by rw [hml]; rfl) (argsL := [(.int (4 : Int32))]) (rest := []) (lenOf pd__I_Lcom_example_sickle_cut_sicklecut_map_Country_ rfl) rfl (by show 2 * 0 + _ ≤ _; exact Nat.le_of_eq rfl) (hb hby at_9) (fun _ _ => ⟨rfl, e0, (by decide : 0 + 0 ≤ _), (by decide : 0 + 0 ≤ _)⟩)
    dsimp only [Pt.U, Pt.locs, Pt.cells, Pt.slots] at X14 l14 y14 z14 st14 hQ14
    subst l14 y14 z14
    obtain ⟨rfl, N14q, e14⟩ := hQ14
    have N14 := Fr.app N0 N14q
    refine own_go (B := T14.setTop (mkF m 12 (LS_IIuuu p0 (4 : Int32)) [(.ref w_Country_GB)])) (fun t k => st14 _ k) ?_
    refine own_go (B := T14.setTop (mkF m 25 (LS_IIRIu p0 (4 : Int32) w_Country_GB (0 : Int32)) [(.ref w_Country_GB)])) (fun t k => ?_) ?_
    · show Steps p.tables e below (T14.setTop (mkF m 12 (LS_IIuuu p0 (4 : Int32)) [(.ref w_Country_GB)])) _
      refine XS.astoreN X14.here hx rfl (hb hby at_12) rfl rfl (l' := (LS_IIRuu p0 (4 : Int32) w_Country_GB)) rfl ?_
      show Steps p.tables e below (T14.setTop (mkF m 13 (LS_IIRuu p0 (4 : Int32) w_Country_GB) [])) _
      refine XS.iloadN X14.here hx rfl (hb hby at_13) rfl ?_
      show Steps p.tables e below (T14.setTop (mkF m 14 (LS_IIRuu p0 (4 : Int32) w_Country_GB) [(.int (4 : Int32))])) _
      refine XS.iconst X14.here hx rfl (hb hby at_14) ?_
      show Steps p.tables e below (T14.setTop (mkF m 15 (LS_IIRuu p0 (4 : Int32) w_Country_GB) [(.int (2 : Int32)), (.int (4 : Int32))])) _
      refine XS.icmpYes X14.here hx rfl (pc0 := 15) (pc' := 22) rfl (hb hby at_15) rfl (feq (by decide : ¬ ((4 : Int32) = (2 : Int32)))).2 (by decide) (by decide) ?_
      show Steps p.tables e below (T14.setTop (mkF m 22 (LS_IIRuu p0 (4 : Int32) w_Country_GB) [])) _
      refine XS.iconst X14.here hx rfl (hb hby at_22) ?_
      show Steps p.tables e below (T14.setTop (mkF m 23 (LS_IIRuu p0 (4 : Int32) w_Country_GB) [(.int (0 : Int32))])) _
      refine XS.istoreN X14.here hx rfl (hb hby at_23) rfl (l' := (LS_IIRIu p0 (4 : Int32) w_Country_GB (0 : Int32))) rfl ?_
      show Steps p.tables e below (T14.setTop (mkF m 24 (LS_IIRIu p0 (4 : Int32) w_Country_GB (0 : Int32)) [])) _
      refine XS.aloadN X14.here hx rfl (hb hby at_24) rfl rfl ?_
      exact k
    obtain ⟨_, _, ⟨T15, L15, k15, n15⟩, -, X15, ⟨Lc15, hQ15, l15, y15, z15⟩, st15⟩ := Jvm.LawKit.callS X14 hx (y := (⟨"com/example/sickle_cut/sicklecut/rules/Side", "owning", "(Lcom/example/sickle_cut/sicklecut/map/Country;)Lcom/example/sickle_cut/sicklecut/rules/Side;"⟩ : MethodName)) hown (mvT hZ (hw _ (List.mem_of_getElem? (i := 8) rfl))) (mvT hZ (hw _ (List.mem_of_getElem? (i := 9) rfl))) (mvT hZ (hw _ (List.mem_of_getElem? (i := 10) rfl))) (mvT hZ (hw _ (List.mem_of_getElem? (i := 11) rfl))) (by decide) (backOf (W := 0) (rm2 l Z a0 hw [] w_Country_GB w_Country_DE w_Side_GERMAN w_Side_ALLIED h0 n0 Z0 S_Country_DE S_Side_GERMAN S_Side_ALLIED) hZ (hw _ (List.mem_of_getElem? (i := 11) rfl)) (hw _ (List.mem_of_getElem? (i := 10) rfl)) (by decide) (by decide)) (g := (mkF m 25 (LS_IIRIu p0 (4 : Int32) w_Country_GB (0 : Int32)) [(.ref w_Country_GB)])) rfl (by rw [hml]; rfl) (argsL := [(.ref w_Country_GB)]) (rest := []) (lenOf pd__Lcom_example_sickle_cut_sicklecut_map_Country__Lcom_example_sickle_cut_sicklecut_rules_Side_ rfl) rfl (by show 2 * 0 + _ ≤ _; exact Nat.le_of_eq rfl) (hb hby at_25) (fun _ _ => ⟨rfl, e14, (by decide : 0 + 0 ≤ _), (by decide : 0 + 0 ≤ _)⟩)
    dsimp only [Pt.U, Pt.locs, Pt.cells, Pt.slots] at X15 l15 y15 z15 st15 hQ15
    subst l15 y15 z15
    obtain ⟨rfl, N15q, e15⟩ := hQ15
    have N15 := Fr.app N14 N15q
    refine own_go (B := T15.setTop (mkF m 28 (LS_IIRIu p0 (4 : Int32) w_Country_GB (0 : Int32)) [(.ref (if w_Country_GB = w_Country_DE then w_Side_GERMAN else w_Side_ALLIED))])) (fun t k => st15 _ k) ?_
    rw [show (if w_Country_GB = w_Country_DE then w_Side_GERMAN else w_Side_ALLIED) = w_Side_ALLIED from if_neg (Fld.ne F_Country_GB_ordinal F_Country_DE_ordinal (by decide))]
    refine own_go (B := T15.setTop (mkF m 50 (LS_IIRIR p0 (4 : Int32) w_Country_GB (0 : Int32) w_Side_ALLIED) [(.ref w_Side_ALLIED)])) (fun t k => ?_) ?_
    · show Steps p.tables e below (T15.setTop (mkF m 28 (LS_IIRIu p0 (4 : Int32) w_Country_GB (0 : Int32)) [(.ref w_Side_ALLIED)])) _
      refine XS.astore X15.here hx rfl (hb hby at_28) rfl rfl (l' := (LS_IIRIR p0 (4 : Int32) w_Country_GB (0 : Int32) w_Side_ALLIED)) rfl ?_
      show Steps p.tables e below (T15.setTop (mkF m 30 (LS_IIRIR p0 (4 : Int32) w_Country_GB (0 : Int32) w_Side_ALLIED) [])) _
      refine XS.iloadN X15.here hx rfl (hb hby at_30) rfl ?_
      show Steps p.tables e below (T15.setTop (mkF m 31 (LS_IIRIR p0 (4 : Int32) w_Country_GB (0 : Int32) w_Side_ALLIED) [(.int (0 : Int32))])) _
      refine XS.ifYes X15.here hx rfl (pc0 := 31) (pc' := 48) rfl (hb hby at_31) rfl ((if0 _ _).trans (teq (by decide : (0 : Int32) = (0 : Int32))).1) (by decide) (by decide) ?_
      show Steps p.tables e below (T15.setTop (mkF m 48 (LS_IIRIR p0 (4 : Int32) w_Country_GB (0 : Int32) w_Side_ALLIED) [])) _
      refine XS.aload X15.here hx rfl (hb hby at_48) rfl rfl ?_
      exact k
    obtain ⟨T16, X16, e16, st16⟩ := getS2 X15 hx hZ hown (host := "") (Or.inl (hw _ (List.mem_of_getElem? (i := 16) rfl))) Via.refl e15 S_Side_ALLIED (g := (mkF m 50 (LS_IIRIR p0 (4 : Int32) w_Country_GB (0 : Int32) w_Side_ALLIED) [(.ref w_Side_ALLIED)])) rfl (hb hby at_50)
    refine own_go (B := T16.setTop (mkF m 53 (LS_IIRIR p0 (4 : Int32) w_Country_GB (0 : Int32) w_Side_ALLIED) [(.ref w_Side_ALLIED), (.ref w_Side_ALLIED)])) (fun t k => st16 _ k) ?_
    refine own_go (B := T16.setTop (mkF m 61 (LS_IIRIR p0 (4 : Int32) w_Country_GB (0 : Int32) w_Side_ALLIED) [(.int (1 : Int32))])) (fun t k => ?_) ?_
    · show Steps p.tables e below (T16.setTop (mkF m 53 (LS_IIRIR p0 (4 : Int32) w_Country_GB (0 : Int32) w_Side_ALLIED) [(.ref w_Side_ALLIED), (.ref w_Side_ALLIED)])) _
      refine Jvm.RoadKit.acmp (g := (mkF m 53 (LS_IIRIR p0 (4 : Int32) w_Country_GB (0 : Int32) w_Side_ALLIED) [(.ref w_Side_ALLIED), (.ref w_Side_ALLIED)])) X16 hx rfl rfl rfl (pc0 := 53) (pc' := 56) (same := true) rfl (hb hby at_53) rfl (decide_eq_true rfl) (by decide) (by decide) ?_
      show Steps p.tables e below (T16.setTop (mkF m 56 (LS_IIRIR p0 (4 : Int32) w_Country_GB (0 : Int32) w_Side_ALLIED) [])) _
      refine XS.iconst X16.here hx rfl (hb hby at_56) ?_
      show Steps p.tables e below (T16.setTop (mkF m 57 (LS_IIRIR p0 (4 : Int32) w_Country_GB (0 : Int32) w_Side_ALLIED) [(.int (1 : Int32))])) _
      refine XS.goto X16.here hx rfl (pc0 := 57) (pc' := 61) rfl (hb hby at_57) (by decide) (by decide) ?_
      exact k
    obtain ⟨fs, hr, hrun, hended, hW, hsame⟩ := X16.leave (v := some (.int (1 : Int32))) (fun h => by rw [Bd.returns] at h; cases h)
    refine ⟨_, _, ?_, hrun, hended, _, _, rfl, ?_, ⟨_, rfl⟩, hW, hsame.mono (by decide) (by decide)⟩
    · show Steps p.tables e below (T16.setTop (mkF m 61 (LS_IIRIR p0 (4 : Int32) w_Country_GB (0 : Int32) w_Side_ALLIED) [(.int (1 : Int32))])) _
      exact retN X16 hx (t := .boolean) Bd.returns (by simp) (hb hby at_61) hr
    · show Q0 Z p0 w_Country_BE w_Country_DE w_Side_ALLIED w_Country_FR w_Country_LU w_Country_NL w_Country_GB w_Side_GERMAN w_Country_CH h0 n0 _ T16.heap _
      rw [e16]
      exact ⟨rfl, N15⟩
  · rw [hk1]
    refine own_go (B := s₁.setTop (mkF m 9 (LS_IIuuu p0 (5 : Int32)) [(.int (5 : Int32))])) (fun t k => ?_) ?_
    · show Steps p.tables e below (s₁.setTop (mkF m 7 (LS_Iuuuu p0) [(.int (5 : Int32))])) _
      refine XS.istoreN X0.here hx rfl (hb hby at_7) rfl (l' := (LS_IIuuu p0 (5 : Int32))) rfl ?_
      show Steps p.tables e below (s₁.setTop (mkF m 8 (LS_IIuuu p0 (5 : Int32)) [])) _
      refine XS.iloadN X0.here hx rfl (hb hby at_8) rfl ?_
      exact k
    obtain ⟨_, _, ⟨T17, L17, k17, n17⟩, -, X17, ⟨Lc17, hQ17, l17, y17, z17⟩, st17⟩ := Jvm.LawKit.callS X0 hx (y := (⟨"com/example/sickle_cut/sicklecut/rules/SideOwningPinLaw", "pick", "(I)Lcom/example/sickle_cut/sicklecut/map/Country;"⟩ : MethodName)) hown (mvT hZ (hw _ (List.mem_of_getElem? (i := 1) rfl))) (mvT hZ (hw _ (List.mem_of_getElem? (i := 2) rfl))) (mvT hZ (hw _ (List.mem_of_getElem? (i := 3) rfl))) (mvT hZ (hw _ (List.mem_of_getElem? (i := 4) rfl))) (by decide) (backOf (W := 0) (rm1_5 l Z a0 hw [] w_Country_LU h0 n0 Z0 S_Country_LU) hZ (hw _ (List.mem_of_getElem? (i := 4) rfl)) (hw _ (List.mem_of_getElem? (i := 3) rfl)) (by decide) (by decide)) (g := (mkF m 9 (LS_IIuuu p0 (5 : Int32)) [(.int (5 : Int32))])) rfl (by rw [hml]; rfl) (argsL := [(.int (5 : Int32))]) (rest := []) (lenOf pd__I_Lcom_example_sickle_cut_sicklecut_map_Country_ rfl) rfl (by show 2 * 0 + _ ≤ _; exact Nat.le_of_eq rfl) (hb hby at_9) (fun _ _ => ⟨rfl, e0, (by decide : 0 + 0 ≤ _), (by decide : 0 + 0 ≤ _)⟩)
    dsimp only [Pt.U, Pt.locs, Pt.cells, Pt.slots] at X17 l17 y17 z17 st17 hQ17
    subst l17 y17 z17
    obtain ⟨rfl, N17q, e17⟩ := hQ17
    have N17 := Fr.app N0 N17q
    refine own_go (B := T17.setTop (mkF m 12 (LS_IIuuu p0 (5 : Int32)) [(.ref w_Country_LU)])) (fun t k => st17 _ k) ?_
    refine own_go (B := T17.setTop (mkF m 25 (LS_IIRIu p0 (5 : Int32) w_Country_LU (0 : Int32)) [(.ref w_Country_LU)])) (fun t k => ?_) ?_
    · show Steps p.tables e below (T17.setTop (mkF m 12 (LS_IIuuu p0 (5 : Int32)) [(.ref w_Country_LU)])) _
      refine XS.astoreN X17.here hx rfl (hb hby at_12) rfl rfl (l' := (LS_IIRuu p0 (5 : Int32) w_Country_LU)) rfl ?_
      show Steps p.tables e below (T17.setTop (mkF m 13 (LS_IIRuu p0 (5 : Int32) w_Country_LU) [])) _
      refine XS.iloadN X17.here hx rfl (hb hby at_13) rfl ?_
      show Steps p.tables e below (T17.setTop (mkF m 14 (LS_IIRuu p0 (5 : Int32) w_Country_LU) [(.int (5 : Int32))])) _
      refine XS.iconst X17.here hx rfl (hb hby at_14) ?_
      show Steps p.tables e below (T17.setTop (mkF m 15 (LS_IIRuu p0 (5 : Int32) w_Country_LU) [(.int (2 : Int32)), (.int (5 : Int32))])) _
      refine XS.icmpYes X17.here hx rfl (pc0 := 15) (pc' := 22) rfl (hb hby at_15) rfl (feq (by decide : ¬ ((5 : Int32) = (2 : Int32)))).2 (by decide) (by decide) ?_
      show Steps p.tables e below (T17.setTop (mkF m 22 (LS_IIRuu p0 (5 : Int32) w_Country_LU) [])) _
      refine XS.iconst X17.here hx rfl (hb hby at_22) ?_
      show Steps p.tables e below (T17.setTop (mkF m 23 (LS_IIRuu p0 (5 : Int32) w_Country_LU) [(.int (0 : Int32))])) _
      refine XS.istoreN X17.here hx rfl (hb hby at_23) rfl (l' := (LS_IIRIu p0 (5 : Int32) w_Country_LU (0 : Int32))) rfl ?_
      show Steps p.tables e below (T17.setTop (mkF m 24 (LS_IIRIu p0 (5 : Int32) w_Country_LU (0 : Int32)) [])) _
      refine XS.aloadN X17.here hx rfl (hb hby at_24) rfl rfl ?_
      exact k
    obtain ⟨_, _, ⟨T18, L18, k18, n18⟩, -, X18, ⟨Lc18, hQ18, l18, y18, z18⟩, st18⟩ := Jvm.LawKit.callS X17 hx (y := (⟨"com/example/sickle_cut/sicklecut/rules/Side", "owning", "(Lcom/example/sickle_cut/sicklecut/map/Country;)Lcom/example/sickle_cut/sicklecut/rules/Side;"⟩ : MethodName)) hown (mvT hZ (hw _ (List.mem_of_getElem? (i := 8) rfl))) (mvT hZ (hw _ (List.mem_of_getElem? (i := 9) rfl))) (mvT hZ (hw _ (List.mem_of_getElem? (i := 10) rfl))) (mvT hZ (hw _ (List.mem_of_getElem? (i := 11) rfl))) (by decide) (backOf (W := 0) (rm2 l Z a0 hw [] w_Country_LU w_Country_DE w_Side_GERMAN w_Side_ALLIED h0 n0 Z0 S_Country_DE S_Side_GERMAN S_Side_ALLIED) hZ (hw _ (List.mem_of_getElem? (i := 11) rfl)) (hw _ (List.mem_of_getElem? (i := 10) rfl)) (by decide) (by decide)) (g := (mkF m 25 (LS_IIRIu p0 (5 : Int32) w_Country_LU (0 : Int32)) [(.ref w_Country_LU)])) rfl (by rw [hml]; rfl) (argsL := [(.ref w_Country_LU)]) (rest := []) (lenOf pd__Lcom_example_sickle_cut_sicklecut_map_Country__Lcom_example_sickle_cut_sicklecut_rules_Side_ rfl) rfl (by show 2 * 0 + _ ≤ _; exact Nat.le_of_eq rfl) (hb hby at_25) (fun _ _ => ⟨rfl, e17, (by decide : 0 + 0 ≤ _), (by decide : 0 + 0 ≤ _)⟩)
    dsimp only [Pt.U, Pt.locs, Pt.cells, Pt.slots] at X18 l18 y18 z18 st18 hQ18
    subst l18 y18 z18
    obtain ⟨rfl, N18q, e18⟩ := hQ18
    have N18 := Fr.app N17 N18q
    refine own_go (B := T18.setTop (mkF m 28 (LS_IIRIu p0 (5 : Int32) w_Country_LU (0 : Int32)) [(.ref (if w_Country_LU = w_Country_DE then w_Side_GERMAN else w_Side_ALLIED))])) (fun t k => st18 _ k) ?_
    rw [show (if w_Country_LU = w_Country_DE then w_Side_GERMAN else w_Side_ALLIED) = w_Side_ALLIED from if_neg (Fld.ne F_Country_LU_ordinal F_Country_DE_ordinal (by decide))]
    refine own_go (B := T18.setTop (mkF m 50 (LS_IIRIR p0 (5 : Int32) w_Country_LU (0 : Int32) w_Side_ALLIED) [(.ref w_Side_ALLIED)])) (fun t k => ?_) ?_
    · show Steps p.tables e below (T18.setTop (mkF m 28 (LS_IIRIu p0 (5 : Int32) w_Country_LU (0 : Int32)) [(.ref w_Side_ALLIED)])) _
      refine XS.astore X18.here hx rfl (hb hby at_28) rfl rfl (l' := (LS_IIRIR p0 (5 : Int32) w_Country_LU (0 : Int32) w_Side_ALLIED)) rfl ?_
      show Steps p.tables e below (T18.setTop (mkF m 30 (LS_IIRIR p0 (5 : Int32) w_Country_LU (0 : Int32) w_Side_ALLIED) [])) _
      refine XS.iloadN X18.here hx rfl (hb hby at_30) rfl ?_
      show Steps p.tables e below (T18.setTop (mkF m 31 (LS_IIRIR p0 (5 : Int32) w_Country_LU (0 : Int32) w_Side_ALLIED) [(.int (0 : Int32))])) _
      refine XS.ifYes X18.here hx rfl (pc0 := 31) (pc' := 48) rfl (hb hby at_31) rfl ((if0 _ _).trans (teq (by decide : (0 : Int32) = (0 : Int32))).1) (by decide) (by decide) ?_
      show Steps p.tables e below (T18.setTop (mkF m 48 (LS_IIRIR p0 (5 : Int32) w_Country_LU (0 : Int32) w_Side_ALLIED) [])) _
      refine XS.aload X18.here hx rfl (hb hby at_48) rfl rfl ?_
      exact k
    obtain ⟨T19, X19, e19, st19⟩ := getS2 X18 hx hZ hown (host := "") (Or.inl (hw _ (List.mem_of_getElem? (i := 16) rfl))) Via.refl e18 S_Side_ALLIED (g := (mkF m 50 (LS_IIRIR p0 (5 : Int32) w_Country_LU (0 : Int32) w_Side_ALLIED) [(.ref w_Side_ALLIED)])) rfl (hb hby at_50)
    refine own_go (B := T19.setTop (mkF m 53 (LS_IIRIR p0 (5 : Int32) w_Country_LU (0 : Int32) w_Side_ALLIED) [(.ref w_Side_ALLIED), (.ref w_Side_ALLIED)])) (fun t k => st19 _ k) ?_
    refine own_go (B := T19.setTop (mkF m 61 (LS_IIRIR p0 (5 : Int32) w_Country_LU (0 : Int32) w_Side_ALLIED) [(.int (1 : Int32))])) (fun t k => ?_) ?_
    · show Steps p.tables e below (T19.setTop (mkF m 53 (LS_IIRIR p0 (5 : Int32) w_Country_LU (0 : Int32) w_Side_ALLIED) [(.ref w_Side_ALLIED), (.ref w_Side_ALLIED)])) _
      refine Jvm.RoadKit.acmp (g := (mkF m 53 (LS_IIRIR p0 (5 : Int32) w_Country_LU (0 : Int32) w_Side_ALLIED) [(.ref w_Side_ALLIED), (.ref w_Side_ALLIED)])) X19 hx rfl rfl rfl (pc0 := 53) (pc' := 56) (same := true) rfl (hb hby at_53) rfl (decide_eq_true rfl) (by decide) (by decide) ?_
      show Steps p.tables e below (T19.setTop (mkF m 56 (LS_IIRIR p0 (5 : Int32) w_Country_LU (0 : Int32) w_Side_ALLIED) [])) _
      refine XS.iconst X19.here hx rfl (hb hby at_56) ?_
      show Steps p.tables e below (T19.setTop (mkF m 57 (LS_IIRIR p0 (5 : Int32) w_Country_LU (0 : Int32) w_Side_ALLIED) [(.int (1 : Int32))])) _
      refine XS.goto X19.here hx rfl (pc0 := 57) (pc' := 61) rfl (hb hby at_57) (by decide) (by decide) ?_
      exact k
    obtain ⟨fs, hr, hrun, hended, hW, hsame⟩ := X19.leave (v := some (.int (1 : Int32))) (fun h => by rw [Bd.returns] at h; cases h)
    refine ⟨_, _, ?_, hrun, hended, _, _, rfl, ?_, ⟨_, rfl⟩, hW, hsame.mono (by decide) (by decide)⟩
    · show Steps p.tables e below (T19.setTop (mkF m 61 (LS_IIRIR p0 (5 : Int32) w_Country_LU (0 : Int32) w_Side_ALLIED) [(.int (1 : Int32))])) _
      exact retN X19 hx (t := .boolean) Bd.returns (by simp) (hb hby at_61) hr
    · show Q0 Z p0 w_Country_BE w_Country_DE w_Side_ALLIED w_Country_FR w_Country_LU w_Country_NL w_Country_GB w_Side_GERMAN w_Country_CH h0 n0 _ T19.heap _
      rw [e19]
      exact ⟨rfl, N18⟩
  · rw [hk1]
    refine own_go (B := s₁.setTop (mkF m 9 (LS_IIuuu p0 (6 : Int32)) [(.int (6 : Int32))])) (fun t k => ?_) ?_
    · show Steps p.tables e below (s₁.setTop (mkF m 7 (LS_Iuuuu p0) [(.int (6 : Int32))])) _
      refine XS.istoreN X0.here hx rfl (hb hby at_7) rfl (l' := (LS_IIuuu p0 (6 : Int32))) rfl ?_
      show Steps p.tables e below (s₁.setTop (mkF m 8 (LS_IIuuu p0 (6 : Int32)) [])) _
      refine XS.iloadN X0.here hx rfl (hb hby at_8) rfl ?_
      exact k
    obtain ⟨_, _, ⟨T20, L20, k20, n20⟩, -, X20, ⟨Lc20, hQ20, l20, y20, z20⟩, st20⟩ := Jvm.LawKit.callS X0 hx (y := (⟨"com/example/sickle_cut/sicklecut/rules/SideOwningPinLaw", "pick", "(I)Lcom/example/sickle_cut/sicklecut/map/Country;"⟩ : MethodName)) hown (mvT hZ (hw _ (List.mem_of_getElem? (i := 1) rfl))) (mvT hZ (hw _ (List.mem_of_getElem? (i := 2) rfl))) (mvT hZ (hw _ (List.mem_of_getElem? (i := 3) rfl))) (mvT hZ (hw _ (List.mem_of_getElem? (i := 4) rfl))) (by decide) (backOf (W := 0) (rm1_6 l Z a0 hw [] w_Country_NL h0 n0 Z0 S_Country_NL) hZ (hw _ (List.mem_of_getElem? (i := 4) rfl)) (hw _ (List.mem_of_getElem? (i := 3) rfl)) (by decide) (by decide)) (g := (mkF m 9 (LS_IIuuu p0 (6 : Int32)) [(.int (6 : Int32))])) rfl (by rw [hml]; rfl) (argsL := [(.int (6 : Int32))]) (rest := []) (lenOf pd__I_Lcom_example_sickle_cut_sicklecut_map_Country_ rfl) rfl (by show 2 * 0 + _ ≤ _; exact Nat.le_of_eq rfl) (hb hby at_9) (fun _ _ => ⟨rfl, e0, (by decide : 0 + 0 ≤ _), (by decide : 0 + 0 ≤ _)⟩)
    dsimp only [Pt.U, Pt.locs, Pt.cells, Pt.slots] at X20 l20 y20 z20 st20 hQ20
    subst l20 y20 z20
    obtain ⟨rfl, N20q, e20⟩ := hQ20
    have N20 := Fr.app N0 N20q
    refine own_go (B := T20.setTop (mkF m 12 (LS_IIuuu p0 (6 : Int32)) [(.ref w_Country_NL)])) (fun t k => st20 _ k) ?_
    refine own_go (B := T20.setTop (mkF m 25 (LS_IIRIu p0 (6 : Int32) w_Country_NL (0 : Int32)) [(.ref w_Country_NL)])) (fun t k => ?_) ?_
    · show Steps p.tables e below (T20.setTop (mkF m 12 (LS_IIuuu p0 (6 : Int32)) [(.ref w_Country_NL)])) _
      refine XS.astoreN X20.here hx rfl (hb hby at_12) rfl rfl (l' := (LS_IIRuu p0 (6 : Int32) w_Country_NL)) rfl ?_
      show Steps p.tables e below (T20.setTop (mkF m 13 (LS_IIRuu p0 (6 : Int32) w_Country_NL) [])) _
      refine XS.iloadN X20.here hx rfl (hb hby at_13) rfl ?_
      show Steps p.tables e below (T20.setTop (mkF m 14 (LS_IIRuu p0 (6 : Int32) w_Country_NL) [(.int (6 : Int32))])) _
      refine XS.iconst X20.here hx rfl (hb hby at_14) ?_
      show Steps p.tables e below (T20.setTop (mkF m 15 (LS_IIRuu p0 (6 : Int32) w_Country_NL) [(.int (2 : Int32)), (.int (6 : Int32))])) _
      refine XS.icmpYes X20.here hx rfl (pc0 := 15) (pc' := 22) rfl (hb hby at_15) rfl (feq (by decide : ¬ ((6 : Int32) = (2 : Int32)))).2 (by decide) (by decide) ?_
      show Steps p.tables e below (T20.setTop (mkF m 22 (LS_IIRuu p0 (6 : Int32) w_Country_NL) [])) _
      refine XS.iconst X20.here hx rfl (hb hby at_22) ?_
      show Steps p.tables e below (T20.setTop (mkF m 23 (LS_IIRuu p0 (6 : Int32) w_Country_NL) [(.int (0 : Int32))])) _
      refine XS.istoreN X20.here hx rfl (hb hby at_23) rfl (l' := (LS_IIRIu p0 (6 : Int32) w_Country_NL (0 : Int32))) rfl ?_
      show Steps p.tables e below (T20.setTop (mkF m 24 (LS_IIRIu p0 (6 : Int32) w_Country_NL (0 : Int32)) [])) _
      refine XS.aloadN X20.here hx rfl (hb hby at_24) rfl rfl ?_
      exact k
    obtain ⟨_, _, ⟨T21, L21, k21, n21⟩, -, X21, ⟨Lc21, hQ21, l21, y21, z21⟩, st21⟩ := Jvm.LawKit.callS X20 hx (y := (⟨"com/example/sickle_cut/sicklecut/rules/Side", "owning", "(Lcom/example/sickle_cut/sicklecut/map/Country;)Lcom/example/sickle_cut/sicklecut/rules/Side;"⟩ : MethodName)) hown (mvT hZ (hw _ (List.mem_of_getElem? (i := 8) rfl))) (mvT hZ (hw _ (List.mem_of_getElem? (i := 9) rfl))) (mvT hZ (hw _ (List.mem_of_getElem? (i := 10) rfl))) (mvT hZ (hw _ (List.mem_of_getElem? (i := 11) rfl))) (by decide) (backOf (W := 0) (rm2 l Z a0 hw [] w_Country_NL w_Country_DE w_Side_GERMAN w_Side_ALLIED h0 n0 Z0 S_Country_DE S_Side_GERMAN S_Side_ALLIED) hZ (hw _ (List.mem_of_getElem? (i := 11) rfl)) (hw _ (List.mem_of_getElem? (i := 10) rfl)) (by decide) (by decide)) (g := (mkF m 25 (LS_IIRIu p0 (6 : Int32) w_Country_NL (0 : Int32)) [(.ref w_Country_NL)])) rfl (by rw [hml]; rfl) (argsL := [(.ref w_Country_NL)]) (rest := []) (lenOf pd__Lcom_example_sickle_cut_sicklecut_map_Country__Lcom_example_sickle_cut_sicklecut_rules_Side_ rfl) rfl (by show 2 * 0 + _ ≤ _; exact Nat.le_of_eq rfl) (hb hby at_25) (fun _ _ => ⟨rfl, e20, (by decide : 0 + 0 ≤ _), (by decide : 0 + 0 ≤ _)⟩)
    dsimp only [Pt.U, Pt.locs, Pt.cells, Pt.slots] at X21 l21 y21 z21 st21 hQ21
    subst l21 y21 z21
    obtain ⟨rfl, N21q, e21⟩ := hQ21
    have N21 := Fr.app N20 N21q
    refine own_go (B := T21.setTop (mkF m 28 (LS_IIRIu p0 (6 : Int32) w_Country_NL (0 : Int32)) [(.ref (if w_Country_NL = w_Country_DE then w_Side_GERMAN else w_Side_ALLIED))])) (fun t k => st21 _ k) ?_
    rw [show (if w_Country_NL = w_Country_DE then w_Side_GERMAN else w_Side_ALLIED) = w_Side_ALLIED from if_neg (Fld.ne F_Country_NL_ordinal F_Country_DE_ordinal (by decide))]
    refine own_go (B := T21.setTop (mkF m 50 (LS_IIRIR p0 (6 : Int32) w_Country_NL (0 : Int32) w_Side_ALLIED) [(.ref w_Side_ALLIED)])) (fun t k => ?_) ?_
    · show Steps p.tables e below (T21.setTop (mkF m 28 (LS_IIRIu p0 (6 : Int32) w_Country_NL (0 : Int32)) [(.ref w_Side_ALLIED)])) _
      refine XS.astore X21.here hx rfl (hb hby at_28) rfl rfl (l' := (LS_IIRIR p0 (6 : Int32) w_Country_NL (0 : Int32) w_Side_ALLIED)) rfl ?_
      show Steps p.tables e below (T21.setTop (mkF m 30 (LS_IIRIR p0 (6 : Int32) w_Country_NL (0 : Int32) w_Side_ALLIED) [])) _
      refine XS.iloadN X21.here hx rfl (hb hby at_30) rfl ?_
      show Steps p.tables e below (T21.setTop (mkF m 31 (LS_IIRIR p0 (6 : Int32) w_Country_NL (0 : Int32) w_Side_ALLIED) [(.int (0 : Int32))])) _
      refine XS.ifYes X21.here hx rfl (pc0 := 31) (pc' := 48) rfl (hb hby at_31) rfl ((if0 _ _).trans (teq (by decide : (0 : Int32) = (0 : Int32))).1) (by decide) (by decide) ?_
      show Steps p.tables e below (T21.setTop (mkF m 48 (LS_IIRIR p0 (6 : Int32) w_Country_NL (0 : Int32) w_Side_ALLIED) [])) _
      refine XS.aload X21.here hx rfl (hb hby at_48) rfl rfl ?_
      exact k
    obtain ⟨T22, X22, e22, st22⟩ := getS2 X21 hx hZ hown (host := "") (Or.inl (hw _ (List.mem_of_getElem? (i := 16) rfl))) Via.refl e21 S_Side_ALLIED (g := (mkF m 50 (LS_IIRIR p0 (6 : Int32) w_Country_NL (0 : Int32) w_Side_ALLIED) [(.ref w_Side_ALLIED)])) rfl (hb hby at_50)
    refine own_go (B := T22.setTop (mkF m 53 (LS_IIRIR p0 (6 : Int32) w_Country_NL (0 : Int32) w_Side_ALLIED) [(.ref w_Side_ALLIED), (.ref w_Side_ALLIED)])) (fun t k => st22 _ k) ?_
    refine own_go (B := T22.setTop (mkF m 61 (LS_IIRIR p0 (6 : Int32) w_Country_NL (0 : Int32) w_Side_ALLIED) [(.int (1 : Int32))])) (fun t k => ?_) ?_
    · show Steps p.tables e below (T22.setTop (mkF m 53 (LS_IIRIR p0 (6 : Int32) w_Country_NL (0 : Int32) w_Side_ALLIED) [(.ref w_Side_ALLIED), (.ref w_Side_ALLIED)])) _
      refine Jvm.RoadKit.acmp (g := (mkF m 53 (LS_IIRIR p0 (6 : Int32) w_Country_NL (0 : Int32) w_Side_ALLIED) [(.ref w_Side_ALLIED), (.ref w_Side_ALLIED)])) X22 hx rfl rfl rfl (pc0 := 53) (pc' := 56) (same := true) rfl (hb hby at_53) rfl (decide_eq_true rfl) (by decide) (by decide) ?_
      show Steps p.tables e below (T22.setTop (mkF m 56 (LS_IIRIR p0 (6 : Int32) w_Country_NL (0 : Int32) w_Side_ALLIED) [])) _
      refine XS.iconst X22.here hx rfl (hb hby at_56) ?_
      show Steps p.tables e below (T22.setTop (mkF m 57 (LS_IIRIR p0 (6 : Int32) w_Country_NL (0 : Int32) w_Side_ALLIED) [(.int (1 : Int32))])) _
      refine XS.goto X22.here hx rfl (pc0 := 57) (pc' := 61) rfl (hb hby at_57) (by decide) (by decide) ?_
      exact k
    obtain ⟨fs, hr, hrun, hended, hW, hsame⟩ := X22.leave (v := some (.int (1 : Int32))) (fun h => by rw [Bd.returns] at h; cases h)
    refine ⟨_, _, ?_, hrun, hended, _, _, rfl, ?_, ⟨_, rfl⟩, hW, hsame.mono (by decide) (by decide)⟩
    · show Steps p.tables e below (T22.setTop (mkF m 61 (LS_IIRIR p0 (6 : Int32) w_Country_NL (0 : Int32) w_Side_ALLIED) [(.int (1 : Int32))])) _
      exact retN X22 hx (t := .boolean) Bd.returns (by simp) (hb hby at_61) hr
    · show Q0 Z p0 w_Country_BE w_Country_DE w_Side_ALLIED w_Country_FR w_Country_LU w_Country_NL w_Country_GB w_Side_GERMAN w_Country_CH h0 n0 _ T22.heap _
      rw [e22]
      exact ⟨rfl, N21⟩
set_option maxRecDepth 65536 in
set_option maxHeartbeats 40000000 in
theorem comes_1 {Post : Tables → Env → Array Value → State → Outcome → State → Prop} (hpost : ∀ tb e args s v u, (limb_1_1.after args s (.returned v) u = true ∧ limb_1_2.after args s (.returned v) u = true ∧ True) → FrameEnd s (.returned v) u (Jvm.fieldLocs frame_1_writes args s ++ Jvm.arrayLocs frame_1_arrays args s ++ Jvm.staticLocs frame_1_statics s) 0 0 → Post tb e args s (.returned v) u) :
    ArmFor flags0 classFile x code maxLocals ret World_1 tables_1 room_1 Calls_1 rest_1 Pre_1 Post := by
  intro l hfl _ _ p e ha hc hk s m args below hf hA hF happ hP
  obtain ⟨hcalls, hrest, hpre⟩ := hP
  obtain ⟨-, -, -, hnamed, -, -, -, hat⟩ := (Spec.applies_iff hf).mp happ
  obtain ⟨hg, hn⟩ := and_e (Cond.before_iff.mp (show (Jvm.Cond.and given_1 narrow_1).before args s = true from hpre))
  obtain ⟨g1, g2⟩ := and_e hg
  obtain ⟨w0, rfl⟩ : ∃ w0 : Value, args = #[w0] := by
    have hs : args.size = 1 := by simpa [Cond.value, given_1] using g1
    obtain ⟨L⟩ := args
    match L, hs with
    | [w0], _ => exact ⟨w0, rfl⟩
  have hw := fun d (hd : d ∈ tables_1) => atoms_spec (ws := Jvm.Cond.code x code maxLocals ret :: tables_1) hat d (List.mem_cons_of_mem _ hd)
  have hfit : Fit s := fun {y c} hc i hi => by
    obtain ⟨ha, rfl⟩ := Array.getElem?_eq_some_iff.mp hc
    have q := List.all_eq_true.mp ((Array.all_eq_true_iff_forall_mem.mp hF) _ (Array.getElem_mem ha)) i (List.mem_range.mpr hi)
    simpa [Array.getElem?_eq_getElem hi] using q
  obtain ⟨i0, ei0⟩ := is_v g2
  obtain rfl : w0 = (.int i0) := Option.some.inj ei0
  obtain ⟨g3, g4⟩ := and_e hn
  obtain ⟨w_Country_BE, ev_Country_BE⟩ := exa_v g3
  have S_Country_BE : Sta s s.heap "com/example/sickle_cut/sicklecut/map/Country" "BE" "Lcom/example/sickle_cut/sicklecut/map/Country;" (.ref w_Country_BE) := Sta.start ev_Country_BE (Or.inr ⟨(hw _ (List.mem_of_getElem? (i := 6) rfl)), (hw _ (List.mem_of_getElem? (i := 7) rfl))⟩)
  have E_Country_BE : Exa s s.heap w_Country_BE "com/example/sickle_cut/sicklecut/map/Country" := Exa.start ev_Country_BE g3
  obtain ⟨g5, g6⟩ := and_e g4
  obtain ⟨w_Country_DE, ev_Country_DE⟩ := exa_v g5
  have S_Country_DE : Sta s s.heap "com/example/sickle_cut/sicklecut/map/Country" "DE" "Lcom/example/sickle_cut/sicklecut/map/Country;" (.ref w_Country_DE) := Sta.start ev_Country_DE (Or.inr ⟨(hw _ (List.mem_of_getElem? (i := 6) rfl)), (hw _ (List.mem_of_getElem? (i := 13) rfl))⟩)
  have E_Country_DE : Exa s s.heap w_Country_DE "com/example/sickle_cut/sicklecut/map/Country" := Exa.start ev_Country_DE g5
  obtain ⟨g7, g8⟩ := and_e g6
  obtain ⟨g9, g10⟩ := and_e g8
  obtain ⟨g11, g12⟩ := and_e g10
  obtain ⟨w_Side_ALLIED, ev_Side_ALLIED⟩ := exa_v g11
  have S_Side_ALLIED : Sta s s.heap "com/example/sickle_cut/sicklecut/rules/Side" "ALLIED" "Lcom/example/sickle_cut/sicklecut/rules/Side;" (.ref w_Side_ALLIED) := Sta.start ev_Side_ALLIED (Or.inr ⟨(hw _ (List.mem_of_getElem? (i := 10) rfl)), (hw _ (List.mem_of_getElem? (i := 15) rfl))⟩)
  have E_Side_ALLIED : Exa s s.heap w_Side_ALLIED "com/example/sickle_cut/sicklecut/rules/Side" := Exa.start ev_Side_ALLIED g11
  obtain ⟨g13, g14⟩ := and_e g12
  obtain ⟨w_Country_FR, ev_Country_FR⟩ := exa_v g13
  have S_Country_FR : Sta s s.heap "com/example/sickle_cut/sicklecut/map/Country" "FR" "Lcom/example/sickle_cut/sicklecut/map/Country;" (.ref w_Country_FR) := Sta.start ev_Country_FR (Or.inr ⟨(hw _ (List.mem_of_getElem? (i := 6) rfl)), (hw _ (List.mem_of_getElem? (i := 18) rfl))⟩)
  have E_Country_FR : Exa s s.heap w_Country_FR "com/example/sickle_cut/sicklecut/map/Country" := Exa.start ev_Country_FR g13
  obtain ⟨g15, g16⟩ := and_e g14
  obtain ⟨g17, g18⟩ := and_e g16
  obtain ⟨w_Country_LU, ev_Country_LU⟩ := exa_v g17
  have S_Country_LU : Sta s s.heap "com/example/sickle_cut/sicklecut/map/Country" "LU" "Lcom/example/sickle_cut/sicklecut/map/Country;" (.ref w_Country_LU) := Sta.start ev_Country_LU (Or.inr ⟨(hw _ (List.mem_of_getElem? (i := 6) rfl)), (hw _ (List.mem_of_getElem? (i := 20) rfl))⟩)
  have E_Country_LU : Exa s s.heap w_Country_LU "com/example/sickle_cut/sicklecut/map/Country" := Exa.start ev_Country_LU g17
  obtain ⟨g19, g20⟩ := and_e g18
  obtain ⟨g21, g22⟩ := and_e g20
  obtain ⟨w_Country_NL, ev_Country_NL⟩ := exa_v g21
  have S_Country_NL : Sta s s.heap "com/example/sickle_cut/sicklecut/map/Country" "NL" "Lcom/example/sickle_cut/sicklecut/map/Country;" (.ref w_Country_NL) := Sta.start ev_Country_NL (Or.inr ⟨(hw _ (List.mem_of_getElem? (i := 6) rfl)), (hw _ (List.mem_of_getElem? (i := 22) rfl))⟩)
  have E_Country_NL : Exa s s.heap w_Country_NL "com/example/sickle_cut/sicklecut/map/Country" := Exa.start ev_Country_NL g21
  obtain ⟨g23, g24⟩ := and_e g22
  obtain ⟨g25, g26⟩ := and_e g24
  obtain ⟨w_Country_GB, ev_Country_GB⟩ := exa_v g25
  have S_Country_GB : Sta s s.heap "com/example/sickle_cut/sicklecut/map/Country" "GB" "Lcom/example/sickle_cut/sicklecut/map/Country;" (.ref w_Country_GB) := Sta.start ev_Country_GB (Or.inr ⟨(hw _ (List.mem_of_getElem? (i := 6) rfl)), (hw _ (List.mem_of_getElem? (i := 24) rfl))⟩)
  have E_Country_GB : Exa s s.heap w_Country_GB "com/example/sickle_cut/sicklecut/map/Country" := Exa.start ev_Country_GB g25
  obtain ⟨g27, g28⟩ := and_e g26
  obtain ⟨g29, g30⟩ := and_e g28
  obtain ⟨w_Side_GERMAN, ev_Side_GERMAN⟩ := exa_v g29
  have S_Side_GERMAN : Sta s s.heap "com/example/sickle_cut/sicklecut/rules/Side" "GERMAN" "Lcom/example/sickle_cut/sicklecut/rules/Side;" (.ref w_Side_GERMAN) := Sta.start ev_Side_GERMAN (Or.inr ⟨(hw _ (List.mem_of_getElem? (i := 10) rfl)), (hw _ (List.mem_of_getElem? (i := 27) rfl))⟩)
  have E_Side_GERMAN : Exa s s.heap w_Side_GERMAN "com/example/sickle_cut/sicklecut/rules/Side" := Exa.start ev_Side_GERMAN g29
  obtain ⟨g31, g32⟩ := and_e g30
  obtain ⟨w_Country_CH, ev_Country_CH⟩ := exa_v g31
  have S_Country_CH : Sta s s.heap "com/example/sickle_cut/sicklecut/map/Country" "CH" "Lcom/example/sickle_cut/sicklecut/map/Country;" (.ref w_Country_CH) := Sta.start ev_Country_CH (Or.inr ⟨(hw _ (List.mem_of_getElem? (i := 6) rfl)), (hw _ (List.mem_of_getElem? (i := 30) rfl))⟩)
  have E_Country_CH : Exa s s.heap w_Country_CH "com/example/sickle_cut/sicklecut/map/Country" := Exa.start ev_Country_CH g31
  have F_Country_BE_ordinal : Fld s s.heap w_Country_BE "java/lang/Enum" "ordinal" "I" (.int (0 : Int32)) := Fld.start ((fld_at ev_Country_BE).symm.trans (own_eqI g7))
  have F_Country_DE_ordinal : Fld s s.heap w_Country_DE "java/lang/Enum" "ordinal" "I" (.int (2 : Int32)) := Fld.start ((fld_at ev_Country_DE).symm.trans (own_eqI g9))
  have F_Country_FR_ordinal : Fld s s.heap w_Country_FR "java/lang/Enum" "ordinal" "I" (.int (3 : Int32)) := Fld.start ((fld_at ev_Country_FR).symm.trans (own_eqI g15))
  have F_Country_LU_ordinal : Fld s s.heap w_Country_LU "java/lang/Enum" "ordinal" "I" (.int (5 : Int32)) := Fld.start ((fld_at ev_Country_LU).symm.trans (own_eqI g19))
  have F_Country_NL_ordinal : Fld s s.heap w_Country_NL "java/lang/Enum" "ordinal" "I" (.int (6 : Int32)) := Fld.start ((fld_at ev_Country_NL).symm.trans (own_eqI g23))
  have F_Country_GB_ordinal : Fld s s.heap w_Country_GB "java/lang/Enum" "ordinal" "I" (.int (4 : Int32)) := Fld.start ((fld_at ev_Country_GB).symm.trans (own_eqI g27))
  have F_Country_CH_ordinal : Fld s s.heap w_Country_CH "java/lang/Enum" "ordinal" "I" (.int (1 : Int32)) := Fld.start ((fld_at ev_Country_CH).symm.trans (own_eqI g32))
  obtain ⟨n, o, h1, h2, h3, _, L, rfl, ⟨rfl, N⟩, hq⟩ := rm0 l s _ hw tables_1 i0 w_Country_BE w_Country_DE w_Side_ALLIED w_Country_FR w_Country_LU w_Country_NL w_Country_GB w_Side_GERMAN w_Country_CH s.heap s.heap.size (Nat.le_refl _) S_Country_BE E_Country_BE S_Country_DE E_Country_DE S_Side_ALLIED E_Side_ALLIED S_Country_FR E_Country_FR S_Country_LU E_Country_LU S_Country_NL E_Country_NL S_Country_GB E_Country_GB S_Side_GERMAN E_Side_GERMAN S_Country_CH E_Country_CH F_Country_BE_ordinal F_Country_DE_ordinal F_Country_FR_ordinal F_Country_LU_ordinal F_Country_NL_ordinal F_Country_GB_ordinal F_Country_CH_ordinal p e ha hc hk s m _ below hf ((Spec.applies_iff_loose hf).mp happ).1 ⟨rfl, State.Warmed39.refl s, rfl⟩ trivial
  refine ⟨n, _, h1, h2, h3, hpost _ _ _ _ _ _ ⟨Cond.after_iff.mpr rfl, Cond.after_iff.mpr (eq_i res_at (Term.int_eval (1)) rfl), trivial⟩ ⟨hq.1, hq.2.1, (hq.2.2.sift fun y hy => Or.inr (N y hy)).mono (by decide) (by decide)⟩⟩
theorem main_1_1 : Claimed_1_1 := comes_1 fun _ _ _ _ _ _ h hF => ⟨h.1, hF⟩
theorem main_1_2 : Claimed_1_2 := comes_1 fun _ _ _ _ _ _ h hF => ⟨h.2.1, hF⟩
end Jvm.Pilot.@@N@@
namespace Jvm.Pilot.@@N@@
open Jvm Jvm.ClassFile Sem Op Lib Jvm.Free Jvm.Stand Jvm.Pilot.@@N@@.Jvm.D
/-! MADE BY PROGRAM (witnessworld.py) out of the Statement's table words and the real class files: 13 classes; the members and pool entries that the words name. The judged class is class 1, her method 2. -/
namespace start1
open Jvm.ClassFile
def u (s : String) : CpInfo := .utf8 (stringToUtf16 s)
/-- a pool by its gaps: so many unusable entries, then the entry; so many at the end -/
def gap : Nat → List CpInfo → List CpInfo
  | 0, r => r
  | n + 1, r => .unusable :: gap n r
def poolList (es : List (Nat × CpInfo)) (last : Nat) : List CpInfo := es.foldr (fun e r => gap e.1 (e.2 :: r)) (gap last [])
def pool (es : List (Nat × CpInfo)) (last : Nat) : Array CpInfo := ⟨poolList es last⟩
def fileOf (pool : Array CpInfo) (this : Nat) (attrs : Array Attribute := #[]) (ms : Array MethodInfo := #[]) (fl : Nat := 33) (sup : Nat := 0) (ifs : Array Nat := #[]) (fds : Array FieldInfo := #[]) : ClassFile where
  minorVersion := 0
  majorVersion := 65
  constantPool := pool
  accessFlags := fl
  thisClass := this
  superClass := sup
  interfaces := ifs
  fields := fds
  methods := ms
  attributes := attrs
def plain (name : String) (sup : Option ClassId) : Class where
  name := name
  kind := .ordinary
  loader := none
  accessFlags := 33
  super := sup
  interfaces := #[]
  cf := none
  fields := #[]
  methods := #[]
  instanceTypes := #[]
  staticTypes := #[]
  resolved := #[]
  callSites := []
  init := .initialized
  statics := none
  mirror := none

def pool0 : Array CpInfo := pool [(5, u "<init>"), (0, u "()V"), (1, .class_ 10), (1, u "java/lang/Object")] 113

def k0m0 : Method := { name := "<init>", desc := "()V", sig := { parameters := [], returnType := none }, accessFlags := 1, code := none }
/-- java/lang/Object -/
def k0 : Class := { plain "java/lang/Object" none with
  accessFlags := 33
  interfaces := #[]
  cf := some (fileOf pool0 8 #[] #[{ accessFlags := 1, nameIndex := 5, descriptorIndex := 6, attributes := #[] }] 33 0 #[] #[])
  fields := #[]
  methods := #[k0m0]
  instanceTypes := #[]
  staticTypes := #[]
  resolved := Array.replicate 124 none
  statics := none }

def pool1 : Array CpInfo := pool [(2, .class_ 4), (1, u "java/lang/Object"), (0, u "<init>"), (0, u "()V"), (0, .fieldref 8 9), (0, .class_ 10), (0, .nameAndType 11 12), (0, u "com/example/sickle_cut/sicklecut/map/Country"), (0, u "BE"), (0, u "Lcom/example/sickle_cut/sicklecut/map/Country;"), (0, .fieldref 8 14), (0, .nameAndType 15 12), (0, u "CH"), (0, .fieldref 8 17), (0, .nameAndType 18 12), (0, u "DE"), (0, .fieldref 8 20), (0, .nameAndType 21 12), (0, u "FR"), (0, .fieldref 8 23), (0, .nameAndType 24 12), (0, u "GB"), (0, .fieldref 8 26), (0, .nameAndType 27 12), (0, u "LU"), (0, .fieldref 8 29), (0, .nameAndType 30 12), (0, u "NL"), (0, .integer 2147483647), (0, .methodref 33 34), (0, .class_ 35), (0, .nameAndType 36 37), (0, u "com/example/sickle_cut/sicklecut/rules/SideOwningPinLaw"), (0, u "pick"), (0, u "(I)Lcom/example/sickle_cut/sicklecut/map/Country;"), (0, .methodref 39 40), (0, .class_ 41), (0, .nameAndType 42 43), (0, u "com/example/sickle_cut/sicklecut/rules/Side"), (0, u "owning"), (0, u "(Lcom/example/sickle_cut/sicklecut/map/Country;)Lcom/example/sickle_cut/sicklecut/rules/Side;"), (0, .fieldref 39 45), (0, .nameAndType 46 47), (0, u "GERMAN"), (0, u "Lcom/example/sickle_cut/sicklecut/rules/Side;"), (0, .fieldref 39 49), (0, .nameAndType 50 47), (0, u "ALLIED"), (3, u "law"), (0, u "(I)Z")] 2

def k1m0 : Method := { name := "<init>", desc := "()V", sig := { parameters := [], returnType := none }, accessFlags := 2, code := none }
def k1c1 : Code := { maxStack := 2, maxLocals := 1, code := method_2_code, exceptionTable := #[], attributes := #[] }
def k1m1 : Method := { name := "pick", desc := "(I)Lcom/example/sickle_cut/sicklecut/map/Country;", sig := { parameters := [.int], returnType := some (.object "com/example/sickle_cut/sicklecut/map/Country") }, accessFlags := 10, code := some k1c1 }
def k1c2 : Code := { maxStack := 2, maxLocals := 5, code := code, exceptionTable := #[], attributes := #[] }
def k1m2 : Method := { name := "law", desc := "(I)Z", sig := { parameters := [.int], returnType := some .boolean }, accessFlags := 9, code := some k1c2 }
/-- com/example/sickle_cut/sicklecut/rules/SideOwningPinLaw -/
def k1 : Class := { plain "com/example/sickle_cut/sicklecut/rules/SideOwningPinLaw" (some 0) with
  accessFlags := 49
  interfaces := #[]
  cf := some (fileOf pool1 33 #[] #[{ accessFlags := 2, nameIndex := 5, descriptorIndex := 6, attributes := #[] }, { accessFlags := 10, nameIndex := 36, descriptorIndex := 37, attributes := #[] }, { accessFlags := 9, nameIndex := 54, descriptorIndex := 55, attributes := #[] }] 49 2 #[] #[])
  fields := #[]
  methods := #[k1m0, k1m1, k1m2]
  instanceTypes := #[]
  staticTypes := #[]
  resolved := Array.replicate 58 none
  statics := none }

def pool2 : Array CpInfo := pool [(1, .class_ 2), (0, u "java/lang/constant/Constable"), (0, .class_ 4), (0, u "java/lang/Object")] 6

/-- java/lang/constant/Constable -/
def k2 : Class := { plain "java/lang/constant/Constable" (some 0) with
  accessFlags := 1537
  interfaces := #[]
  cf := some (fileOf pool2 1 #[] #[] 1537 3 #[] #[])
  fields := #[]
  methods := #[]
  instanceTypes := #[]
  staticTypes := #[]
  resolved := Array.replicate 11 none
  statics := none }

def pool3 : Array CpInfo := pool [(1, .class_ 2), (0, u "java/lang/Comparable"), (0, .class_ 4), (0, u "java/lang/Object")] 7

/-- java/lang/Comparable -/
def k3 : Class := { plain "java/lang/Comparable" (some 0) with
  accessFlags := 1537
  interfaces := #[]
  cf := some (fileOf pool3 1 #[] #[] 1537 3 #[] #[])
  fields := #[]
  methods := #[]
  instanceTypes := #[]
  staticTypes := #[]
  resolved := Array.replicate 12 none
  statics := none }

def pool4 : Array CpInfo := pool [(1, .class_ 2), (0, u "java/io/Serializable"), (0, .class_ 4), (0, u "java/lang/Object")] 2

/-- java/io/Serializable -/
def k4 : Class := { plain "java/io/Serializable" (some 0) with
  accessFlags := 1537
  interfaces := #[]
  cf := some (fileOf pool4 1 #[] #[] 1537 3 #[] #[])
  fields := #[]
  methods := #[]
  instanceTypes := #[]
  staticTypes := #[]
  resolved := Array.replicate 7 none
  statics := none }

def pool5 : Array CpInfo := pool [(2, .class_ 4), (1, u "java/lang/Enum"), (0, u "name"), (0, u "Ljava/lang/String;"), (2, u "ordinal"), (0, u "I"), (1, .class_ 14), (1, u "java/lang/Object"), (4, u "hash"), (86, .class_ 108), (1, u "java/lang/Enum$EnumDesc"), (2, .class_ 112), (0, u "java/lang/constant/Constable"), (0, .class_ 114), (0, u "java/lang/Comparable"), (0, .class_ 116), (0, u "java/io/Serializable")] 87

/-- java/lang/Enum -/
def k5 : Class := { plain "java/lang/Enum" (some 0) with
  accessFlags := 1057
  interfaces := #[2, 3, 4]
  cf := some (fileOf pool5 2 #[.nestMembers #[106]] #[] 1057 12 #[111, 113, 115] #[{ accessFlags := 18, nameIndex := 5, descriptorIndex := 6, attributes := #[] }, { accessFlags := 18, nameIndex := 9, descriptorIndex := 10, attributes := #[] }, { accessFlags := 2, nameIndex := 19, descriptorIndex := 10, attributes := #[] }])
  fields := #[{ name := "name", type := (.object "java/lang/String"), accessFlags := 18, slot := 0, constantValue := 0 }, { name := "ordinal", type := .int, accessFlags := 18, slot := 1, constantValue := 0 }, { name := "hash", type := .int, accessFlags := 2, slot := 2, constantValue := 0 }]
  methods := #[]
  instanceTypes := #[(.object "java/lang/String"), .int, .int]
  staticTypes := #[]
  resolved := Array.replicate 204 none
  statics := none }

def pool6 : Array CpInfo := pool [(1, .class_ 2), (0, u "com/example/sickle_cut/sicklecut/map/Country"), (2, u "BE"), (0, u "Lcom/example/sickle_cut/sicklecut/map/Country;"), (2, u "CH"), (2, u "DE"), (2, u "FR"), (2, u "GB"), (2, u "LU"), (2, u "NL"), (2, u "$VALUES"), (0, u "[Lcom/example/sickle_cut/sicklecut/map/Country;"), (6, .class_ 37), (1, u "java/lang/Enum")] 67

/-- com/example/sickle_cut/sicklecut/map/Country -/
def k6 : Class := { plain "com/example/sickle_cut/sicklecut/map/Country" (some 5) with
  accessFlags := 16433
  interfaces := #[]
  cf := some (fileOf pool6 1 #[] #[] 16433 35 #[] #[{ accessFlags := 16409, nameIndex := 5, descriptorIndex := 6, attributes := #[] }, { accessFlags := 16409, nameIndex := 9, descriptorIndex := 6, attributes := #[] }, { accessFlags := 16409, nameIndex := 12, descriptorIndex := 6, attributes := #[] }, { accessFlags := 16409, nameIndex := 15, descriptorIndex := 6, attributes := #[] }, { accessFlags := 16409, nameIndex := 18, descriptorIndex := 6, attributes := #[] }, { accessFlags := 16409, nameIndex := 21, descriptorIndex := 6, attributes := #[] }, { accessFlags := 16409, nameIndex := 24, descriptorIndex := 6, attributes := #[] }, { accessFlags := 4122, nameIndex := 27, descriptorIndex := 28, attributes := #[] }])
  fields := #[{ name := "BE", type := (.object "com/example/sickle_cut/sicklecut/map/Country"), accessFlags := 16409, slot := 0, constantValue := 0 }, { name := "CH", type := (.object "com/example/sickle_cut/sicklecut/map/Country"), accessFlags := 16409, slot := 1, constantValue := 0 }, { name := "DE", type := (.object "com/example/sickle_cut/sicklecut/map/Country"), accessFlags := 16409, slot := 2, constantValue := 0 }, { name := "FR", type := (.object "com/example/sickle_cut/sicklecut/map/Country"), accessFlags := 16409, slot := 3, constantValue := 0 }, { name := "GB", type := (.object "com/example/sickle_cut/sicklecut/map/Country"), accessFlags := 16409, slot := 4, constantValue := 0 }, { name := "LU", type := (.object "com/example/sickle_cut/sicklecut/map/Country"), accessFlags := 16409, slot := 5, constantValue := 0 }, { name := "NL", type := (.object "com/example/sickle_cut/sicklecut/map/Country"), accessFlags := 16409, slot := 6, constantValue := 0 }, { name := "$VALUES", type := (.array (.object "com/example/sickle_cut/sicklecut/map/Country")), accessFlags := 4122, slot := 7, constantValue := 0 }]
  methods := #[]
  instanceTypes := #[(.object "java/lang/String"), .int, .int]
  staticTypes := #[(.object "com/example/sickle_cut/sicklecut/map/Country"), (.object "com/example/sickle_cut/sicklecut/map/Country"), (.object "com/example/sickle_cut/sicklecut/map/Country"), (.object "com/example/sickle_cut/sicklecut/map/Country"), (.object "com/example/sickle_cut/sicklecut/map/Country"), (.object "com/example/sickle_cut/sicklecut/map/Country"), (.object "com/example/sickle_cut/sicklecut/map/Country"), (.array (.object "com/example/sickle_cut/sicklecut/map/Country"))]
  resolved := Array.replicate 105 none
  statics := some 0 }

def pool7 : Array CpInfo := pool [(1, .class_ 2), (0, u "com/example/sickle_cut/sicklecut/rules/Side"), (0, .fieldref 1 4), (0, .nameAndType 5 6), (0, u "GERMAN"), (0, u "Lcom/example/sickle_cut/sicklecut/rules/Side;"), (0, .fieldref 1 8), (0, .nameAndType 9 6), (0, u "ALLIED"), (2, u "$VALUES"), (0, u "[Lcom/example/sickle_cut/sicklecut/rules/Side;"), (6, .class_ 22), (1, u "java/lang/Enum"), (22, .fieldref 46 47), (0, .class_ 48), (0, .nameAndType 49 50), (0, u "com/example/sickle_cut/sicklecut/map/Country"), (0, u "DE"), (0, u "Lcom/example/sickle_cut/sicklecut/map/Country;"), (18, u "owning"), (0, u "(Lcom/example/sickle_cut/sicklecut/map/Country;)Lcom/example/sickle_cut/sicklecut/rules/Side;")] 4

def k7c0 : Code := { maxStack := 2, maxLocals := 1, code := prog_35_method_6_code, exceptionTable := #[], attributes := #[] }
def k7m0 : Method := { name := "owning", desc := "(Lcom/example/sickle_cut/sicklecut/map/Country;)Lcom/example/sickle_cut/sicklecut/rules/Side;", sig := { parameters := [(.object "com/example/sickle_cut/sicklecut/map/Country")], returnType := some (.object "com/example/sickle_cut/sicklecut/rules/Side") }, accessFlags := 9, code := some k7c0 }
/-- com/example/sickle_cut/sicklecut/rules/Side -/
def k7 : Class := { plain "com/example/sickle_cut/sicklecut/rules/Side" (some 5) with
  accessFlags := 16433
  interfaces := #[]
  cf := some (fileOf pool7 1 #[] #[{ accessFlags := 9, nameIndex := 69, descriptorIndex := 70, attributes := #[] }] 16433 20 #[] #[{ accessFlags := 16409, nameIndex := 5, descriptorIndex := 6, attributes := #[] }, { accessFlags := 16409, nameIndex := 9, descriptorIndex := 6, attributes := #[] }, { accessFlags := 4122, nameIndex := 12, descriptorIndex := 13, attributes := #[] }])
  fields := #[{ name := "GERMAN", type := (.object "com/example/sickle_cut/sicklecut/rules/Side"), accessFlags := 16409, slot := 0, constantValue := 0 }, { name := "ALLIED", type := (.object "com/example/sickle_cut/sicklecut/rules/Side"), accessFlags := 16409, slot := 1, constantValue := 0 }, { name := "$VALUES", type := (.array (.object "com/example/sickle_cut/sicklecut/rules/Side")), accessFlags := 4122, slot := 2, constantValue := 0 }]
  methods := #[k7m0]
  instanceTypes := #[(.object "java/lang/String"), .int, .int]
  staticTypes := #[(.object "com/example/sickle_cut/sicklecut/rules/Side"), (.object "com/example/sickle_cut/sicklecut/rules/Side"), (.array (.object "com/example/sickle_cut/sicklecut/rules/Side"))]
  resolved := Array.replicate 75 none
  statics := some 1 }

def pool8 : Array CpInfo := pool [(1, u "java/lang/Cloneable"), (0, .class_ 1), (0, u "java/lang/Object"), (0, .class_ 3)] 3

/-- java/lang/Cloneable -/
def k8 : Class := { plain "java/lang/Cloneable" (some 0) with
  accessFlags := 1537
  interfaces := #[]
  cf := some (fileOf pool8 2 #[] #[] 1537 4 #[] #[])
  fields := #[]
  methods := #[]
  instanceTypes := #[]
  staticTypes := #[]
  resolved := Array.replicate 8 none
  statics := none }

/-- the primitive byte -/
def k9 : Class := { plain "byte" none with kind := .primitive 'B', accessFlags := 0x411 }
/-- [B -/
def k10 : Class := { plain "[B" (some 0) with kind := .array 9 .byte, interfaces := #[8, 4], accessFlags := 1041 }

/-- the primitive int -/
def k11 : Class := { plain "int" none with kind := .primitive 'I', accessFlags := 0x411 }
/-- [I -/
def k12 : Class := { plain "[I" (some 0) with kind := .array 11 .int, interfaces := #[8, 4], accessFlags := 1041 }

def heap : Heap := #[{ cls := 6, slots := #[.ref 2, .ref 10, .ref 3, .ref 5, .ref 8, .ref 6, .ref 7, .null], vm := .statics 6 },
  { cls := 7, slots := #[.ref 9, .ref 4, .null], vm := .statics 7 },
  { cls := 6, slots := #[.null, .int 0, .int 0], vm := .none },
  { cls := 6, slots := #[.null, .int 2, .int 0], vm := .none },
  { cls := 7, slots := #[.null, .int 0, .int 0], vm := .none },
  { cls := 6, slots := #[.null, .int 3, .int 0], vm := .none },
  { cls := 6, slots := #[.null, .int 5, .int 0], vm := .none },
  { cls := 6, slots := #[.null, .int 6, .int 0], vm := .none },
  { cls := 6, slots := #[.null, .int 4, .int 0], vm := .none },
  { cls := 7, slots := #[.null, .int 0, .int 0], vm := .none },
  { cls := 6, slots := #[.null, .int 1, .int 0], vm := .none }]
def classes : Array Class := #[k0, k1, k2, k3, k4, k5, k6, k7, k8, k9, k10, k11, k12]
def interned : List (Array UInt16 × Addr) := []
def slotsUsed : Nat := 38
def theMethod : MethodId := ⟨1, 2⟩
def args0 : Array Value := #[.int 5]
def aboutOver (below : List Frame) : State where
  vm := { classes := classes, interned := interned.toArray }
  heap := heap
  slotsUsed := slotsUsed
  threads := #[{ frames := .invoking theMethod args0 :: below }]
def below0 : List Frame := [.native { method := ⟨0, 0⟩, args := #[] }]
def about1 : State := aboutOver below0
def p0 : Program := .bare "" "" ""
def e0 : Env := launch0.env 0 0 0
theorem w_frames : about1.frames = Frame.invoking theMethod args0 :: below0 := rfl
set_option maxRecDepth 65536 in
theorem w_args : argsFit about1.vm theMethod args0 = true := by decide +kernel
set_option maxRecDepth 65536 in
theorem w_heap : heapFits about1 = true := by decide +kernel
set_option maxRecDepth 65536 in
theorem w_runnable : about1.curStatus? = some .runnable := by decide +kernel
set_option maxRecDepth 65536 in
theorem w_alone : about1.alone = true := by decide +kernel
set_option maxRecDepth 65536 in
theorem w_named : about1.methodNamed? x = some theMethod := by decide +kernel
set_option maxRecDepth 65536 in
theorem w_hears : about1.hears theMethod below0 = true := by decide +kernel
set_option maxRecDepth 65536 in
theorem w_ripe : about1.ripe theMethod args0 below0 = true := by decide +kernel
theorem w_running : about1.status = .running := rfl
set_option maxRecDepth 65536 in
theorem w_room : about1.hasRoom e0.platform room_1 = true :=
  launch0.hasRoom_least _ room_1 (by decide +kernel) (by decide +kernel) (by decide +kernel) (by decide +kernel) (by decide +kernel) (by decide +kernel)
theorem allAtoms_all (ts : List Jvm.Cond) (a : Array Jvm.Value) (st : Jvm.State) : (allAtoms ts).before a st = ts.all (fun c => c.before a st) := by
  induction ts with
  | nil => rfl
  | cons c t ih =>
    show (Jvm.Cond.and c (allAtoms t)).before a st = _
    rw [Jvm.Cond.before_and, ih, List.all_cons]
def words1 : List Jvm.Cond := Jvm.Cond.code x code maxLocals ret :: tables_1
/-- a 'code' word, met by the world's own term for the bytes: nothing is compared byte by byte -/
theorem code_word {y : MethodName} {bytes : ByteArray} {mx : Nat} {rt : Option FieldType} {a : Array Value} {s : State} {m : MethodId} {meth : Method} {c : Code} (h1 : s.methodNamed? y = some m) (h2 : s.vm.method? m = some meth) (h3 : meth.code = some c) (h4 : c.code = bytes)
    (h5 : (c.maxLocals == mx && c.exceptionTable.isEmpty && decide (c.maxStack ≤ mostOperands) && decide (meth.sig.returnType = rt) && !meth.locks && decide (parseMethodDescriptor y.desc = some meth.sig)) = true) : (Jvm.Cond.code y bytes mx rt).before a s = true := by
  simp only [Bool.and_eq_true, beq_iff_eq, Bool.not_eq_true', decide_eq_true_eq] at h5
  obtain ⟨⟨⟨⟨⟨g1, g2⟩, g3⟩, g4⟩, g5⟩, g6⟩ := h5
  simp [Cond.before, Cond.holds, Cond.value, h1, h2, h3, h4, g1, g2, g3, g4, g5, g6]
def isCode : Jvm.Cond → Bool
  | .code _ _ _ _ => true
  | _ => false
theorem all_split {L : List Jvm.Cond} {P : Jvm.Cond → Bool} (h1 : L.all (fun c => isCode c || P c) = true) (h2 : ∀ c ∈ L.filter isCode, P c = true) : L.all P = true := by
  refine List.all_eq_true.mpr fun c hc => ?_
  have h := List.all_eq_true.mp h1 c hc
  rcases Bool.eq_false_or_eq_true (isCode c) with hi | hi
  · exact h2 c (List.mem_filter.mpr ⟨hc, hi⟩)
  · simpa [hi] using h
set_option maxRecDepth 65536 in
theorem w_c0 : (Jvm.Cond.code x code maxLocals ret).before args0 about1 = true := code_word (m := ⟨1, 2⟩) (meth := k1m2) (c := k1c2) (by decide +kernel) rfl rfl rfl (by decide +kernel)
set_option maxRecDepth 65536 in
theorem w_c1 : (Jvm.Cond.code ({ cls := "com/example/sickle_cut/sicklecut/rules/SideOwningPinLaw", name := "pick", desc := "(I)Lcom/example/sickle_cut/sicklecut/map/Country;" } : Jvm.MethodName) method_2_code (1 : Nat) (Option.some (Jvm.ClassFile.FieldType.object "com/example/sickle_cut/sicklecut/map/Country"))).before args0 about1 = true := code_word (m := ⟨1, 1⟩) (meth := k1m1) (c := k1c1) (by decide +kernel) rfl rfl rfl (by decide +kernel)
set_option maxRecDepth 65536 in
theorem w_c2 : (Jvm.Cond.code ({ cls := "com/example/sickle_cut/sicklecut/rules/Side", name := "owning", desc := "(Lcom/example/sickle_cut/sicklecut/map/Country;)Lcom/example/sickle_cut/sicklecut/rules/Side;" } : Jvm.MethodName) prog_35_method_6_code (1 : Nat) (Option.some (Jvm.ClassFile.FieldType.object "com/example/sickle_cut/sicklecut/rules/Side"))).before args0 about1 = true := code_word (m := ⟨7, 0⟩) (meth := k7m0) (c := k7c0) (by decide +kernel) rfl rfl rfl (by decide +kernel)
def codes1 : List Jvm.Cond := [Jvm.Cond.code x code maxLocals ret, Jvm.Cond.code ({ cls := "com/example/sickle_cut/sicklecut/rules/SideOwningPinLaw", name := "pick", desc := "(I)Lcom/example/sickle_cut/sicklecut/map/Country;" } : Jvm.MethodName) method_2_code (1 : Nat) (Option.some (Jvm.ClassFile.FieldType.object "com/example/sickle_cut/sicklecut/map/Country")), Jvm.Cond.code ({ cls := "com/example/sickle_cut/sicklecut/rules/Side", name := "owning", desc := "(Lcom/example/sickle_cut/sicklecut/map/Country;)Lcom/example/sickle_cut/sicklecut/rules/Side;" } : Jvm.MethodName) prog_35_method_6_code (1 : Nat) (Option.some (Jvm.ClassFile.FieldType.object "com/example/sickle_cut/sicklecut/rules/Side"))]
set_option maxRecDepth 65536 in
theorem codes_eq : words1.filter isCode = codes1 := rfl
theorem w_codes : ∀ c ∈ words1.filter isCode, c.before args0 about1 = true := by
  rw [codes_eq]
  intro c hc
  simp only [codes1, List.mem_cons, List.not_mem_nil, or_false] at hc
  rcases hc with rfl | rfl | rfl
  · exact w_c0
  · exact w_c1
  · exact w_c2
set_option maxRecDepth 65536 in
theorem w_t1 : (words1.take 24).all (fun c => isCode c || c.before args0 about1) = true := by decide +kernel
set_option maxRecDepth 65536 in
theorem w_t2 : (words1.drop 24).all (fun c => isCode c || c.before args0 about1) = true := by decide +kernel
theorem w_tables : (allAtoms (Jvm.Cond.code x code maxLocals ret :: tables_1)).before args0 about1 = true := by
  rw [allAtoms_all]
  show words1.all (fun c => c.before args0 about1) = true
  refine all_split ?_ w_codes
  rw [← List.take_append_drop 24 words1, List.all_append, w_t1, w_t2]
  rfl
set_option maxRecDepth 65536 in
theorem w_case : (Jvm.Cond.and given_1 narrow_1).before args0 about1 = true := by decide +kernel
theorem w_applies : (headSpec (Jvm.Cond.code x code maxLocals ret :: tables_1) room_1).applies x e0.platform about1 = true :=
  (Spec.applies_iff w_frames).mpr ⟨w_running, w_runnable, w_alone, w_named, w_hears, w_ripe, w_room, w_tables⟩
theorem atStart : AtStart classFile x code maxLocals ret World_1 tables_1 room_1 Calls_1 rest_1 Pre_1 launch0 p0 e0 about1 theMethod args0 below0 :=
  ⟨lists_1, trivial, launch0.admits_env _ _ _, launch0.least_env, fairChoices_fair.cas, fairChoices_fair.clock, w_frames, w_args, w_heap, w_applies, trivial, trivial, w_case⟩
end start1
theorem witness_1 : WitnessClaimed_1 := ⟨start1.p0, start1.e0, start1.about1, start1.theMethod, start1.args0, start1.below0, start1.atStart⟩
end Jvm.Pilot.@@N@@
