import JvmDerived
import JvmDerived.Pilot.@@N@@Statement
import JvmDerived.Pilot.@@N@@Code
set_option linter.unusedVariables false
set_option linter.unusedSimpArgs false
namespace Jvm.Pilot.@@N@@
open Jvm Jvm.ClassFile Sem Op Lib Jvm.Free Jvm.Stand Jvm.LawKit Jvm.RoadKit Bundle Jvm.Pilot.@@N@@.Jvm.D
/-- two roads that come together: the rest is shown once, for every state and value with which they come -/
theorem own_join {p : Program} {l : Launch} {e : Env} {R : Room} {s : State} {m : MethodId} {args : Array Value} {below : List Frame} {meth : Method} {c : Code} {T : State} {locs : List Loc} {cells slots : Nat} {A : State} {P : State → Outcome → Prop}
    (X : Stand p l e R s m args below meth c T locs cells slots) {ι : Type} (Φ : ι → State → Prop) (B : ι → JFrame)
    (rest : ∀ i T', Stand p l e R s m args below meth c T' locs cells slots → Φ i T' → ∃ s₂ o, Steps p.tables e below (T'.setTop (B i)) s₂ ∧ P s₂ o)
    (come : (∀ i T', Stand p l e R s m args below meth c T' locs cells slots → Φ i T' → ∃ s₂ o, Steps p.tables e below (T'.setTop (B i)) s₂ ∧ P s₂ o) → ∃ s₂ o, Steps p.tables e below A s₂ ∧ P s₂ o) : ∃ s₂ o, Steps p.tables e below A s₂ ∧ P s₂ o := come rest
theorem own_joinH {p : Program} {l : Launch} {e : Env} {R : Room} {s : State} {m : MethodId} {args : Array Value} {below : List Frame} {meth : Method} {c : Code} {T : State} {locs : List Loc} {cells slots n0 : Nat} {A : State} {P : State → Outcome → Prop}
    (X : Stand p l e R s m args below meth c T locs cells slots) (N : Fr n0 locs) {ι : Type} (cells' slots' : Nat) (Φ : ι → Heap → Prop) (B : ι → JFrame)
    (rest : ∀ i T' locs', Stand p l e R s m args below meth c T' locs' cells' slots' → Fr n0 locs' → Φ i T'.heap → ∃ s₂ o, Steps p.tables e below (T'.setTop (B i)) s₂ ∧ P s₂ o)
    (come : (∀ i T' locs', Stand p l e R s m args below meth c T' locs' cells' slots' → Fr n0 locs' → Φ i T'.heap → ∃ s₂ o, Steps p.tables e below (T'.setTop (B i)) s₂ ∧ P s₂ o) → ∃ s₂ o, Steps p.tables e below A s₂ ∧ P s₂ o) : ∃ s₂ o, Steps p.tables e below A s₂ ∧ P s₂ o := come rest
theorem own_mono {p : Program} {l : Launch} {e : Env} {R : Room} {s : State} {m : MethodId} {args : Array Value} {below : List Frame} {meth : Method} {c : Code} {T : State} {locs : List Loc} {cells slots cells' slots' : Nat}
    (X : Stand p l e R s m args below meth c T locs cells slots) (h1 : cells ≤ cells') (h2 : slots ≤ slots') : Stand p l e R s m args below meth c T locs cells' slots' := { X with same := X.same.mono h1 h2 }
theorem own_sta_keep {Z : State} {h h' : Heap} {C n d : String} {v : Value} {ws : List Addr} (F : Sta Z h C n d v) (K : Keep h h' ws) (q : ∀ x ∈ ws, ∀ c : Cell, h[x]? = some c → c.vm.isStatics = false) : Sta Z h' C n d v := by
  obtain ⟨cf, i, k, f, st, cell, h1, h2, h3, h4, h5, h6, h7⟩ := F
  refine ⟨cf, i, k, f, st, cell, h1, h2, h3, h4, K.2.1 st cell h5 fun hm => ?_, h6, h7⟩
  rw [q st hm cell h5] at h6
  cases h6
theorem own_plain_E {Z : State} {h : Heap} {a : Addr} {C : String} (F : Exa Z h a C) : ∀ c : Cell, h[a]? = some c → c.vm.isStatics = false := by
  obtain ⟨cell, k, h1, h2, h3, h4, h5⟩ := F
  intro c hc
  cases h1.symm.trans hc
  exact h4
theorem own_plain_V {Z : State} {h : Heap} {a : Addr} {k : ClassId} {ty : FieldType} {n : Int32} {vs : List Value} {d : Value} (F : Arv Z h a k ty n vs d) : ∀ c : Cell, h[a]? = some c → c.vm.isStatics = false := by
  obtain ⟨cell, A, -⟩ := F
  intro c hc
  cases A.1.symm.trans hc
  exact A.plain
/-- a stretch of the road, then the rest -/
theorem own_go {tb : Tables} {e : Env} {below : List Frame} {A B : State} {P : State → Outcome → Prop} (h : ∀ t, Steps tb e below B t → Steps tb e below A t) (k : ∃ s₂ o, Steps tb e below B s₂ ∧ P s₂ o) : ∃ s₂ o, Steps tb e below A s₂ ∧ P s₂ o := by
  obtain ⟨s₂, o, h1, h2⟩ := k
  exact ⟨s₂, o, h s₂ h1, h2⟩
theorem own_eqI {args : Array Value} {first s : State} {o : Option Outcome} {idx : List Nat} {t : Term} {k : Int32} (h : (Jvm.Cond.eq t (.int k)).value args first o s idx = some true) : t.eval args first o idx s = some (.int k) := by
  simp only [Jvm.Cond.value, Term.eval] at h
  cases ht : t.eval args first o idx s with
  | none => simp [ht] at h
  | some x => cases x <;> simp [ht] at h ⊢; exact h
theorem own_eqJ {args : Array Value} {first s : State} {o : Option Outcome} {idx : List Nat} {t : Term} {k : Int64} (h : (Jvm.Cond.eq t (.long k)).value args first o s idx = some true) : t.eval args first o idx s = some (.long k) := by
  simp only [Jvm.Cond.value, Term.eval] at h
  cases ht : t.eval args first o idx s with
  | none => simp [ht] at h
  | some x => cases x <;> simp [ht] at h ⊢; exact h
theorem own_eqR {args : Array Value} {first s : State} {o : Option Outcome} {idx : List Nat} {t u : Term} {a : Addr} (h : (Jvm.Cond.eq t u).value args first o s idx = some true) (hu : u.eval args first o idx s = some (.ref a)) : t.eval args first o idx s = some (.ref a) := by
  simp only [Jvm.Cond.value] at h
  cases ht : t.eval args first o idx s with
  | none => simp [ht] at h
  | some x => cases x <;> simp [ht, hu] at h ⊢; exact h
theorem ef_1 (m : MethodId) (r0 : Addr) : entryFrame m #[(.ref r0)] 1 = mkF m 0 #[.val (.ref r0)] [] := by first | (simp [entryFrame, mkF, argsToLocals, Value.category]; done) | rfl
theorem pn_1 : plainName "com/example/rameau/rameau/model/Privilege$Target" = true := by first | (simp [plainName, overriddenIn]; done) | decide +kernel
abbrev LS_R (a0 : Addr) : Array Slot := #[.val (.ref a0)]
theorem d1_0 : decode prog_20_method_6_code 0 = .ok (.aload_n 0, 1) := by decide +kernel
theorem d1_1 : decode prog_20_method_6_code 1 = .ok (.getstatic 3, 3) := by decide +kernel
theorem d1_4 : decode prog_20_method_6_code 4 = .ok (.if_acmp .ne 9, 3) := by decide +kernel
theorem d1_7 : decode prog_20_method_6_code 7 = .ok (.getstatic 7, 3) := by decide +kernel
theorem d1_10 : decode prog_20_method_6_code 10 = .ok (.goto 6, 3) := by decide +kernel
theorem d1_16 : decode prog_20_method_6_code 16 = .ok (.areturn, 1) := by decide +kernel
theorem d1_13 : decode prog_20_method_6_code 13 = .ok (.getstatic 3, 3) := by decide +kernel
def Q1 (Z : State) (r0 : Addr) (wG : Addr) (wF : Addr) (h0 : Heap) (n0 : Nat) (v : Option Value) (h : Heap) (L : List Loc) : Prop := v = some (.ref (if r0 = wG then wF else wG)) ∧ Fr n0 L ∧ h = h0
set_option maxRecDepth 65536 in
set_option maxHeartbeats 40000000 in
theorem rm1 (l : Launch) (Z : State) (a0 : Array Value) (hw : ∀ d ∈ tables_1, d.before a0 Z = true) (ws : List Jvm.Cond) (r0 : Addr) (wG : Addr) (wF : Addr) (h0 : Heap) (n0 : Nat) (Z0 : n0 ≤ h0.size) (S_GROUP : Sta Z h0 "com/example/rameau/rameau/model/Privilege$Target" "GROUP" "Lcom/example/rameau/rameau/model/Privilege$Target;" (.ref wG)) (S_FOLDER : Sta Z h0 "com/example/rameau/rameau/model/Privilege$Target" "FOLDER" "Lcom/example/rameau/rameau/model/Privilege$Target;" (.ref wF)) :
    MetFree l (⟨"com/example/rameau/rameau/model/Privilege$Target", "other", "()Lcom/example/rameau/rameau/model/Privilege$Target;"⟩ : MethodName) (head1 (Jvm.Cond.code (⟨"com/example/rameau/rameau/model/Privilege$Target", "other", "()Lcom/example/rameau/rameau/model/Privilege$Target;"⟩ : MethodName) prog_20_method_6_code 1 (some (.object "com/example/rameau/rameau/model/Privilege$Target")) :: ws) ({ frames := 0, cells := 0, slots := 0, locals := 0 } : Room)) (fun a U => a = #[(.ref r0)] ∧ Z.Warmed39 U.vm ∧ U.heap = h0) (fun _ _ _ _ _ => True) (fun _ U o U' => ∃ v L, o = .returned v ∧ Q1 Z r0 wG wF h0 n0 v U'.heap L ∧ FrameEnd U o U' L ({ frames := 0, cells := 0, slots := 0, locals := 0 } : Room).cells ({ frames := 0, cells := 0, slots := 0, locals := 0 } : Room).slots) := by
  refine MetFree.of_bodySF (plainFor_of_name pn_1) hisR ?_
  intro p e s m args below meth c s₁ Bd hml0 hP hK
  obtain ⟨rfl, hZ, hh⟩ := hP
  have hx := Bd.exec
  have hby := Bd.bytes
  have hml : c.maxLocals = 1 := hml0
  have hown : s.vm.findClass "com/example/rameau/rameau/model/Privilege$Target" = some m.cls := findClass_of_methodNamed Bd.named
  have hnm := (name_of_methodNamed Bd.named Bd.method).1
  have X0 : Stand p l e ({ frames := 0, cells := 0, slots := 0, locals := 0 } : Room) s m #[(.ref r0)] below meth c s₁ [] 0 0 := Stand.of_body Bd
  have e0 : s₁.heap = h0 := by rw [← hh, Bd.state]; rfl
  have N0 := Fr.nil n0
  refine own_go (B := s₁.setTop (mkF m 0 (LS_R r0) [])) (fun t k => castTop (ef_1 m r0) k) ?_
  refine own_go (B := s₁.setTop (mkF m 1 (LS_R r0) [(.ref r0)])) (fun t k => ?_) ?_
  · show Steps p.tables e below (s₁.setTop (mkF m 0 (LS_R r0) [])) _
    refine XS.aloadN X0.here hx rfl (hb hby d1_0) rfl rfl ?_
    exact k
  obtain ⟨T1, X1, e1, st1⟩ := getS2 X0 hx hZ hown (host := "") (Or.inl (hw _ (List.mem_of_getElem? (i := 8) rfl))) Via.refl e0 S_GROUP (g := (mkF m 1 (LS_R r0) [(.ref r0)])) rfl (hb hby d1_1)
  refine own_go (B := T1.setTop (mkF m 4 (LS_R r0) [(.ref wG), (.ref r0)])) (fun t k => st1 _ k) ?_
  by_cases hc4_2 : r0 = wG
  · refine own_go (B := T1.setTop (mkF m 7 (LS_R r0) [])) (fun t k => ?_) ?_
    · show Steps p.tables e below (T1.setTop (mkF m 4 (LS_R r0) [(.ref wG), (.ref r0)])) _
      refine Jvm.RoadKit.acmp (g := (mkF m 4 (LS_R r0) [(.ref wG), (.ref r0)])) X1 hx rfl rfl rfl (pc0 := 4) (pc' := 7) (same := true) rfl (hb hby d1_4) rfl (decide_eq_true (congrArg Value.ref hc4_2)) (by decide) (by decide) ?_
      exact k
    obtain ⟨T3, X3, e3, st3⟩ := getS2 X1 hx hZ hown (host := "") (Or.inl (hw _ (List.mem_of_getElem? (i := 9) rfl))) Via.refl e1 S_FOLDER (g := (mkF m 7 (LS_R r0) [])) rfl (hb hby d1_7)
    refine own_go (B := T3.setTop (mkF m 10 (LS_R r0) [(.ref wF)])) (fun t k => st3 _ k) ?_
    refine own_go (B := T3.setTop (mkF m 16 (LS_R r0) [(.ref wF)])) (fun t k => ?_) ?_
    · show Steps p.tables e below (T3.setTop (mkF m 10 (LS_R r0) [(.ref wF)])) _
      refine XS.goto X3.here hx rfl (pc0 := 10) (pc' := 16) rfl (hb hby d1_10) (by decide) (by decide) ?_
      exact k
    obtain ⟨fs, hr, hrun, hended, hW, hsame⟩ := X3.leave (v := some (.ref wF)) (fun h => by rw [Bd.returns] at h; cases h)
    refine ⟨_, _, ?_, hrun, hended, _, _, rfl, ?_, ⟨_, rfl⟩, hW, hsame.mono (by decide) (by decide)⟩
    · show Steps p.tables e below (T3.setTop (mkF m 16 (LS_R r0) [(.ref wF)])) _
      exact retOut X3 hx Bd.returns rfl (Or.inr (Or.inr (Or.inr (Or.inr ⟨rfl, rfl, rfl⟩)))) (hb hby d1_16) hr
    · show Q1 Z r0 wG wF h0 n0 _ T3.heap _
      rw [e3]
      exact ⟨by rw [if_pos hc4_2], N0, rfl⟩
  · refine own_go (B := T1.setTop (mkF m 13 (LS_R r0) [])) (fun t k => ?_) ?_
    · show Steps p.tables e below (T1.setTop (mkF m 4 (LS_R r0) [(.ref wG), (.ref r0)])) _
      refine Jvm.RoadKit.acmp (g := (mkF m 4 (LS_R r0) [(.ref wG), (.ref r0)])) X1 hx rfl rfl rfl (pc0 := 4) (pc' := 13) (same := false) rfl (hb hby d1_4) rfl (decide_eq_false fun q => hc4_2 (Value.ref.inj q)) (by decide) (by decide) ?_
      exact k
    obtain ⟨T4, X4, e4, st4⟩ := getS2 X1 hx hZ hown (host := "") (Or.inl (hw _ (List.mem_of_getElem? (i := 8) rfl))) Via.refl e1 S_GROUP (g := (mkF m 13 (LS_R r0) [])) rfl (hb hby d1_13)
    refine own_go (B := T4.setTop (mkF m 16 (LS_R r0) [(.ref wG)])) (fun t k => st4 _ k) ?_
    obtain ⟨fs, hr, hrun, hended, hW, hsame⟩ := X4.leave (v := some (.ref wG)) (fun h => by rw [Bd.returns] at h; cases h)
    refine ⟨_, _, ?_, hrun, hended, _, _, rfl, ?_, ⟨_, rfl⟩, hW, hsame.mono (by decide) (by decide)⟩
    · show Steps p.tables e below (T4.setTop (mkF m 16 (LS_R r0) [(.ref wG)])) _
      exact retOut X4 hx Bd.returns rfl (Or.inr (Or.inr (Or.inr (Or.inr ⟨rfl, rfl, rfl⟩)))) (hb hby d1_16) hr
    · show Q1 Z r0 wG wF h0 n0 _ T4.heap _
      rw [e4]
      exact ⟨by rw [if_neg hc4_2], N0, rfl⟩
theorem ef_0 (m : MethodId) (p0 : Int32) : entryFrame m #[(.int p0)] maxLocals = mkF m 0 #[.val (.int p0), .unset, .unset, .unset, .unset, .unset] [] := by first | (simp [entryFrame, mkF, argsToLocals, Value.category, maxLocals]; done) | rfl
theorem pn_0 : plainName "com/example/rameau/rameau/model/TargetOtherPinLaw" = true := by first | (simp [plainName, overriddenIn]; done) | decide +kernel
abbrev LS_Iuuuuu (a0 : Int32) : Array Slot := #[.val (.int a0), .unset, .unset, .unset, .unset, .unset]
abbrev LS_IIuuuu (a0 : Int32) (a1 : Int32) : Array Slot := #[.val (.int a0), .val (.int a1), .unset, .unset, .unset, .unset]
abbrev LS_IIRuuu (a0 : Int32) (a1 : Int32) (a2 : Addr) : Array Slot := #[.val (.int a0), .val (.int a1), .val (.ref a2), .unset, .unset, .unset]
theorem pd___Lcom_example_rameau_rameau_model_Privilege_Target_ : parseMethodDescriptor "()Lcom/example/rameau/rameau/model/Privilege$Target;" = some ⟨[], some (.object "com/example/rameau/rameau/model/Privilege$Target")⟩ := by decide +kernel
abbrev LS_IIRRuu (a0 : Int32) (a1 : Int32) (a2 : Addr) (a3 : Addr) : Array Slot := #[.val (.int a0), .val (.int a1), .val (.ref a2), .val (.ref a3), .unset, .unset]
abbrev LS_IIRRRu (a0 : Int32) (a1 : Int32) (a2 : Addr) (a3 : Addr) (a4 : Addr) : Array Slot := #[.val (.int a0), .val (.int a1), .val (.ref a2), .val (.ref a3), .val (.ref a4), .unset]
abbrev LS_IIRRRR (a0 : Int32) (a1 : Int32) (a2 : Addr) (a3 : Addr) (a4 : Addr) (a5 : Addr) : Array Slot := #[.val (.int a0), .val (.int a1), .val (.ref a2), .val (.ref a3), .val (.ref a4), .val (.ref a5)]
def Q0 (Z : State) (p0 : Int32) (w_Privilege_Target_GROUP : Addr) (w_Privilege_Target_FOLDER : Addr) (h0 : Heap) (n0 : Nat) (v : Option Value) (h : Heap) (L : List Loc) : Prop := v = some (.int (1 : Int32)) ∧ Fr n0 L
set_option maxRecDepth 65536 in
set_option maxHeartbeats 40000000 in
theorem rm0 (l : Launch) (Z : State) (a0 : Array Value) (hw : ∀ d ∈ tables_1, d.before a0 Z = true) (ws : List Jvm.Cond) (p0 : Int32) (w_Privilege_Target_GROUP : Addr) (w_Privilege_Target_FOLDER : Addr) (h0 : Heap) (n0 : Nat) (Z0 : n0 ≤ h0.size) (S_Privilege_Target_GROUP : Sta Z h0 "com/example/rameau/rameau/model/Privilege$Target" "GROUP" "Lcom/example/rameau/rameau/model/Privilege$Target;" (.ref w_Privilege_Target_GROUP)) (E_Privilege_Target_GROUP : Exa Z h0 w_Privilege_Target_GROUP "com/example/rameau/rameau/model/Privilege$Target") (S_Privilege_Target_FOLDER : Sta Z h0 "com/example/rameau/rameau/model/Privilege$Target" "FOLDER" "Lcom/example/rameau/rameau/model/Privilege$Target;" (.ref w_Privilege_Target_FOLDER)) (E_Privilege_Target_FOLDER : Exa Z h0 w_Privilege_Target_FOLDER "com/example/rameau/rameau/model/Privilege$Target") (F_Privilege_Target_FOLDER_ordinal : Fld Z h0 w_Privilege_Target_FOLDER "java/lang/Enum" "ordinal" "I" (.int (1 : Int32))) (F_Privilege_Target_GROUP_ordinal : Fld Z h0 w_Privilege_Target_GROUP "java/lang/Enum" "ordinal" "I" (.int (0 : Int32))) :
    MetFree l x (head1 (Jvm.Cond.code x code maxLocals ret :: ws) room_1) (fun a U => a = #[(.int p0)] ∧ Z.Warmed39 U.vm ∧ U.heap = h0) (fun _ _ _ _ _ => True) (fun _ U o U' => ∃ v L, o = .returned v ∧ Q0 Z p0 w_Privilege_Target_GROUP w_Privilege_Target_FOLDER h0 n0 v U'.heap L ∧ FrameEnd U o U' L room_1.cells room_1.slots) := by
  refine MetFree.of_bodySF (plainFor_of_name pn_0) hisR ?_
  intro p e s m args below meth c s₁ Bd hml0 hP hK
  obtain ⟨rfl, hZ, hh⟩ := hP
  have hx := Bd.exec
  have hby := Bd.bytes
  have hml : c.maxLocals = 6 := hml0
  have hown : s.vm.findClass "com/example/rameau/rameau/model/TargetOtherPinLaw" = some m.cls := findClass_of_methodNamed Bd.named
  have hnm := (name_of_methodNamed Bd.named Bd.method).1
  have X0 : Stand p l e room_1 s m #[(.int p0)] below meth c s₁ [] 0 0 := Stand.of_body Bd
  have e0 : s₁.heap = h0 := by rw [← hh, Bd.state]; rfl
  have N0 := Fr.nil n0
  refine own_go (B := s₁.setTop (mkF m 0 (LS_Iuuuuu p0) [])) (fun t k => castTop (ef_0 m p0) k) ?_
  refine own_go (B := s₁.setTop (mkF m 3 (LS_Iuuuuu p0) [(.int (p0 &&& (1 : Int32)))])) (fun t k => ?_) ?_
  · show Steps p.tables e below (s₁.setTop (mkF m 0 (LS_Iuuuuu p0) [])) _
    refine XS.iloadN X0.here hx rfl (hb hby at_0) rfl ?_
    show Steps p.tables e below (s₁.setTop (mkF m 1 (LS_Iuuuuu p0) [(.int p0)])) _
    refine XS.iconst X0.here hx rfl (hb hby at_1) ?_
    show Steps p.tables e below (s₁.setTop (mkF m 2 (LS_Iuuuuu p0) [(.int (1 : Int32)), (.int p0)])) _
    refine XS.iand X0.here hx rfl (hb hby at_2) rfl ?_
    exact k
  by_cases hc3_1 : (p0 &&& (1 : Int32)) = (0 : Int32)
  · refine own_go (B := s₁.setTop (mkF m 16 (LS_IIuuuu p0 (1 : Int32)) [])) (fun t k => ?_) ?_
    · show Steps p.tables e below (s₁.setTop (mkF m 3 (LS_Iuuuuu p0) [(.int (p0 &&& (1 : Int32)))])) _
      refine XS.ifNo X0.here hx rfl (hb hby at_3) rfl ((if0 _ _).trans (teq hc3_1).2) ?_
      show Steps p.tables e below (s₁.setTop (mkF m 6 (LS_Iuuuuu p0) [])) _
      refine XS.iconst X0.here hx rfl (hb hby at_6) ?_
      show Steps p.tables e below (s₁.setTop (mkF m 7 (LS_Iuuuuu p0) [(.int (1 : Int32))])) _
      refine XS.goto X0.here hx rfl (pc0 := 7) (pc' := 11) rfl (hb hby at_7) (by decide) (by decide) ?_
      show Steps p.tables e below (s₁.setTop (mkF m 11 (LS_Iuuuuu p0) [(.int (1 : Int32))])) _
      refine XS.istoreN X0.here hx rfl (hb hby at_11) rfl (l' := (LS_IIuuuu p0 (1 : Int32))) rfl ?_
      show Steps p.tables e below (s₁.setTop (mkF m 12 (LS_IIuuuu p0 (1 : Int32)) [])) _
      refine XS.iloadN X0.here hx rfl (hb hby at_12) rfl ?_
      show Steps p.tables e below (s₁.setTop (mkF m 13 (LS_IIuuuu p0 (1 : Int32)) [(.int (1 : Int32))])) _
      refine XS.ifNo X0.here hx rfl (hb hby at_13) rfl ((if0 _ _).trans (feq (by decide : ¬ ((1 : Int32) = (0 : Int32)))).1) ?_
      exact k
    obtain ⟨T2, X2, e2, st2⟩ := getS2 X0 hx hZ hown (host := "") (Or.inl (hw _ (List.mem_of_getElem? (i := 0) rfl))) Via.refl e0 S_Privilege_Target_GROUP (g := (mkF m 16 (LS_IIuuuu p0 (1 : Int32)) [])) rfl (hb hby at_16)
    refine own_go (B := T2.setTop (mkF m 19 (LS_IIuuuu p0 (1 : Int32)) [(.ref w_Privilege_Target_GROUP)])) (fun t k => st2 _ k) ?_
    refine own_go (B := T2.setTop (mkF m 27 (LS_IIRuuu p0 (1 : Int32) w_Privilege_Target_GROUP) [(.ref w_Privilege_Target_GROUP)])) (fun t k => ?_) ?_
    · show Steps p.tables e below (T2.setTop (mkF m 19 (LS_IIuuuu p0 (1 : Int32)) [(.ref w_Privilege_Target_GROUP)])) _
      refine XS.goto X2.here hx rfl (pc0 := 19) (pc' := 25) rfl (hb hby at_19) (by decide) (by decide) ?_
      show Steps p.tables e below (T2.setTop (mkF m 25 (LS_IIuuuu p0 (1 : Int32)) [(.ref w_Privilege_Target_GROUP)])) _
      refine XS.astoreN X2.here hx rfl (hb hby at_25) rfl rfl (l' := (LS_IIRuuu p0 (1 : Int32) w_Privilege_Target_GROUP)) rfl ?_
      show Steps p.tables e below (T2.setTop (mkF m 26 (LS_IIRuuu p0 (1 : Int32) w_Privilege_Target_GROUP) [])) _
      refine XS.aloadN X2.here hx rfl (hb hby at_26) rfl rfl ?_
      exact k
    obtain ⟨cq3, kq3, q3a, q3b, q3c⟩ := isOf hZ e2 E_Privilege_Target_GROUP
    obtain ⟨_, _, ⟨T3, L3, k3, n3⟩, -, X3, ⟨Lc3, hQ3, l3, y3, z3⟩, st3⟩ := X2.virtualBack hx (y := (⟨"com/example/rameau/rameau/model/Privilege$Target", "other", "()Lcom/example/rameau/rameau/model/Privilege$Target;"⟩ : MethodName)) (z := (⟨"com/example/rameau/rameau/model/Privilege$Target", "other", "()Lcom/example/rameau/rameau/model/Privilege$Target;"⟩ : MethodName)) hown (mvT hZ (hw _ (List.mem_of_getElem? (i := 3) rfl))) (mvT hZ (hw _ (List.mem_of_getElem? (i := 4) rfl))) (notFace_of_selects (args := #[]) (mvT hZ (hw _ (List.mem_of_getElem? (i := 6) rfl)))) (mvT hZ (hw _ (List.mem_of_getElem? (i := 6) rfl))) (mvT hZ (hw _ (List.mem_of_getElem? (i := 5) rfl))) (by decide) (backOf (W := 0) (rm1 l Z a0 hw [] w_Privilege_Target_GROUP w_Privilege_Target_GROUP w_Privilege_Target_FOLDER h0 n0 Z0 S_Privilege_Target_GROUP S_Privilege_Target_FOLDER) hZ (hw _ (List.mem_of_getElem? (i := 7) rfl)) (hw _ (List.mem_of_getElem? (i := 1) rfl)) (by decide) (by decide)) q3a q3c (g := (mkF m 27 (LS_IIRuuu p0 (1 : Int32) w_Privilege_Target_GROUP) [(.ref w_Privilege_Target_GROUP)])) rfl (by rw [hml]; rfl) (Steps.refl _) (argsL := []) (rest := []) (lenOf pd___Lcom_example_rameau_rameau_model_Privilege_Target_ rfl) rfl (by show 2 * 0 + _ ≤ _; exact Nat.le_of_eq rfl) (hb hby at_27) (fun _ _ => ⟨rfl, e2, (by decide : 0 + 0 ≤ _), (by decide : 0 + 0 ≤ _)⟩)
    dsimp only [Pt.U, Pt.locs, Pt.cells, Pt.slots] at X3 l3 y3 z3 st3 hQ3
    subst l3 y3 z3
    obtain ⟨rfl, N3q, e3⟩ := hQ3
    have N3 := Fr.app N0 N3q
    refine own_go (B := T3.setTop (mkF m 30 (LS_IIRuuu p0 (1 : Int32) w_Privilege_Target_GROUP) [(.ref (if w_Privilege_Target_GROUP = w_Privilege_Target_GROUP then w_Privilege_Target_FOLDER else w_Privilege_Target_GROUP))])) (fun t k => st3.trans k) ?_
    rw [show (if w_Privilege_Target_GROUP = w_Privilege_Target_GROUP then w_Privilege_Target_FOLDER else w_Privilege_Target_GROUP) = w_Privilege_Target_FOLDER from if_pos rfl]
    refine own_go (B := T3.setTop (mkF m 45 (LS_IIRRuu p0 (1 : Int32) w_Privilege_Target_GROUP w_Privilege_Target_FOLDER) [(.ref w_Privilege_Target_FOLDER)])) (fun t k => ?_) ?_
    · show Steps p.tables e below (T3.setTop (mkF m 30 (LS_IIRuuu p0 (1 : Int32) w_Privilege_Target_GROUP) [(.ref w_Privilege_Target_FOLDER)])) _
      refine XS.astoreN X3.here hx rfl (hb hby at_30) rfl rfl (l' := (LS_IIRRuu p0 (1 : Int32) w_Privilege_Target_GROUP w_Privilege_Target_FOLDER)) rfl ?_
      show Steps p.tables e below (T3.setTop (mkF m 31 (LS_IIRRuu p0 (1 : Int32) w_Privilege_Target_GROUP w_Privilege_Target_FOLDER) [])) _
      refine XS.aloadN X3.here hx rfl (hb hby at_31) rfl rfl ?_
      show Steps p.tables e below (T3.setTop (mkF m 32 (LS_IIRRuu p0 (1 : Int32) w_Privilege_Target_GROUP w_Privilege_Target_FOLDER) [(.ref w_Privilege_Target_FOLDER)])) _
      refine XS.ifnonnullYes X3.here hx rfl (pc0 := 32) (pc' := 37) rfl (hb hby at_32) rfl (by decide) (by decide) ?_
      show Steps p.tables e below (T3.setTop (mkF m 37 (LS_IIRRuu p0 (1 : Int32) w_Privilege_Target_GROUP w_Privilege_Target_FOLDER) [])) _
      refine XS.aloadN X3.here hx rfl (hb hby at_37) rfl rfl ?_
      show Steps p.tables e below (T3.setTop (mkF m 38 (LS_IIRRuu p0 (1 : Int32) w_Privilege_Target_GROUP w_Privilege_Target_FOLDER) [(.ref w_Privilege_Target_FOLDER)])) _
      refine XS.aloadN X3.here hx rfl (hb hby at_38) rfl rfl ?_
      show Steps p.tables e below (T3.setTop (mkF m 39 (LS_IIRRuu p0 (1 : Int32) w_Privilege_Target_GROUP w_Privilege_Target_FOLDER) [(.ref w_Privilege_Target_GROUP), (.ref w_Privilege_Target_FOLDER)])) _
      refine Jvm.RoadKit.acmp (g := (mkF m 39 (LS_IIRRuu p0 (1 : Int32) w_Privilege_Target_GROUP w_Privilege_Target_FOLDER) [(.ref w_Privilege_Target_GROUP), (.ref w_Privilege_Target_FOLDER)])) X3 hx rfl rfl rfl (pc0 := 39) (pc' := 44) (same := false) rfl (hb hby at_39) rfl (decide_eq_false fun q => (Fld.ne F_Privilege_Target_FOLDER_ordinal F_Privilege_Target_GROUP_ordinal (by decide)) (Value.ref.inj q)) (by decide) (by decide) ?_
      show Steps p.tables e below (T3.setTop (mkF m 44 (LS_IIRRuu p0 (1 : Int32) w_Privilege_Target_GROUP w_Privilege_Target_FOLDER) [])) _
      refine XS.aloadN X3.here hx rfl (hb hby at_44) rfl rfl ?_
      exact k
    obtain ⟨cq4, kq4, q4a, q4b, q4c⟩ := isOf hZ e3 E_Privilege_Target_FOLDER
    obtain ⟨_, _, ⟨T4, L4, k4, n4⟩, -, X4, ⟨Lc4, hQ4, l4, y4, z4⟩, st4⟩ := X3.virtualBack hx (y := (⟨"com/example/rameau/rameau/model/Privilege$Target", "other", "()Lcom/example/rameau/rameau/model/Privilege$Target;"⟩ : MethodName)) (z := (⟨"com/example/rameau/rameau/model/Privilege$Target", "other", "()Lcom/example/rameau/rameau/model/Privilege$Target;"⟩ : MethodName)) hown (mvT hZ (hw _ (List.mem_of_getElem? (i := 3) rfl))) (mvT hZ (hw _ (List.mem_of_getElem? (i := 4) rfl))) (notFace_of_selects (args := #[]) (mvT hZ (hw _ (List.mem_of_getElem? (i := 6) rfl)))) (mvT hZ (hw _ (List.mem_of_getElem? (i := 6) rfl))) (mvT hZ (hw _ (List.mem_of_getElem? (i := 5) rfl))) (by decide) (backOf (W := 0) (rm1 l Z a0 hw [] w_Privilege_Target_FOLDER w_Privilege_Target_GROUP w_Privilege_Target_FOLDER h0 n0 Z0 S_Privilege_Target_GROUP S_Privilege_Target_FOLDER) hZ (hw _ (List.mem_of_getElem? (i := 7) rfl)) (hw _ (List.mem_of_getElem? (i := 1) rfl)) (by decide) (by decide)) q4a q4c (g := (mkF m 45 (LS_IIRRuu p0 (1 : Int32) w_Privilege_Target_GROUP w_Privilege_Target_FOLDER) [(.ref w_Privilege_Target_FOLDER)])) rfl (by rw [hml]; rfl) (Steps.refl _) (argsL := []) (rest := []) (lenOf pd___Lcom_example_rameau_rameau_model_Privilege_Target_ rfl) rfl (by show 2 * 0 + _ ≤ _; exact Nat.le_of_eq rfl) (hb hby at_45) (fun _ _ => ⟨rfl, e3, (by decide : 0 + 0 ≤ _), (by decide : 0 + 0 ≤ _)⟩)
    dsimp only [Pt.U, Pt.locs, Pt.cells, Pt.slots] at X4 l4 y4 z4 st4 hQ4
    subst l4 y4 z4
    obtain ⟨rfl, N4q, e4⟩ := hQ4
    have N4 := Fr.app N3 N4q
    refine own_go (B := T4.setTop (mkF m 48 (LS_IIRRuu p0 (1 : Int32) w_Privilege_Target_GROUP w_Privilege_Target_FOLDER) [(.ref (if w_Privilege_Target_FOLDER = w_Privilege_Target_GROUP then w_Privilege_Target_FOLDER else w_Privilege_Target_GROUP))])) (fun t k => st4.trans k) ?_
    rw [show (if w_Privilege_Target_FOLDER = w_Privilege_Target_GROUP then w_Privilege_Target_FOLDER else w_Privilege_Target_GROUP) = w_Privilege_Target_GROUP from if_neg (Fld.ne F_Privilege_Target_FOLDER_ordinal F_Privilege_Target_GROUP_ordinal (by decide))]
    refine own_go (B := T4.setTop (mkF m 62 (LS_IIRRRu p0 (1 : Int32) w_Privilege_Target_GROUP w_Privilege_Target_FOLDER w_Privilege_Target_GROUP) [])) (fun t k => ?_) ?_
    · show Steps p.tables e below (T4.setTop (mkF m 48 (LS_IIRRuu p0 (1 : Int32) w_Privilege_Target_GROUP w_Privilege_Target_FOLDER) [(.ref w_Privilege_Target_GROUP)])) _
      refine XS.astore X4.here hx rfl (hb hby at_48) rfl rfl (l' := (LS_IIRRRu p0 (1 : Int32) w_Privilege_Target_GROUP w_Privilege_Target_FOLDER w_Privilege_Target_GROUP)) rfl ?_
      show Steps p.tables e below (T4.setTop (mkF m 50 (LS_IIRRRu p0 (1 : Int32) w_Privilege_Target_GROUP w_Privilege_Target_FOLDER w_Privilege_Target_GROUP) [])) _
      refine XS.aload X4.here hx rfl (hb hby at_50) rfl rfl ?_
      show Steps p.tables e below (T4.setTop (mkF m 52 (LS_IIRRRu p0 (1 : Int32) w_Privilege_Target_GROUP w_Privilege_Target_FOLDER w_Privilege_Target_GROUP) [(.ref w_Privilege_Target_GROUP)])) _
      refine XS.aloadN X4.here hx rfl (hb hby at_52) rfl rfl ?_
      show Steps p.tables e below (T4.setTop (mkF m 53 (LS_IIRRRu p0 (1 : Int32) w_Privilege_Target_GROUP w_Privilege_Target_FOLDER w_Privilege_Target_GROUP) [(.ref w_Privilege_Target_GROUP), (.ref w_Privilege_Target_GROUP)])) _
      refine Jvm.RoadKit.acmp (g := (mkF m 53 (LS_IIRRRu p0 (1 : Int32) w_Privilege_Target_GROUP w_Privilege_Target_FOLDER w_Privilege_Target_GROUP) [(.ref w_Privilege_Target_GROUP), (.ref w_Privilege_Target_GROUP)])) X4 hx rfl rfl rfl (pc0 := 53) (pc' := 58) (same := true) rfl (hb hby at_53) rfl (decide_eq_true rfl) (by decide) (by decide) ?_
      show Steps p.tables e below (T4.setTop (mkF m 58 (LS_IIRRRu p0 (1 : Int32) w_Privilege_Target_GROUP w_Privilege_Target_FOLDER w_Privilege_Target_GROUP) [])) _
      refine XS.iloadN X4.here hx rfl (hb hby at_58) rfl ?_
      show Steps p.tables e below (T4.setTop (mkF m 59 (LS_IIRRRu p0 (1 : Int32) w_Privilege_Target_GROUP w_Privilege_Target_FOLDER w_Privilege_Target_GROUP) [(.int (1 : Int32))])) _
      refine XS.ifNo X4.here hx rfl (hb hby at_59) rfl ((if0 _ _).trans (feq (by decide : ¬ ((1 : Int32) = (0 : Int32)))).1) ?_
      exact k
    obtain ⟨T5, X5, e5, st5⟩ := getS2 X4 hx hZ hown (host := "") (Or.inl (hw _ (List.mem_of_getElem? (i := 11) rfl))) Via.refl e4 S_Privilege_Target_FOLDER (g := (mkF m 62 (LS_IIRRRu p0 (1 : Int32) w_Privilege_Target_GROUP w_Privilege_Target_FOLDER w_Privilege_Target_GROUP) [])) rfl (hb hby at_62)
    refine own_go (B := T5.setTop (mkF m 65 (LS_IIRRRu p0 (1 : Int32) w_Privilege_Target_GROUP w_Privilege_Target_FOLDER w_Privilege_Target_GROUP) [(.ref w_Privilege_Target_FOLDER)])) (fun t k => st5 _ k) ?_
    refine own_go (B := T5.setTop (mkF m 84 (LS_IIRRRR p0 (1 : Int32) w_Privilege_Target_GROUP w_Privilege_Target_FOLDER w_Privilege_Target_GROUP w_Privilege_Target_FOLDER) [(.int (1 : Int32))])) (fun t k => ?_) ?_
    · show Steps p.tables e below (T5.setTop (mkF m 65 (LS_IIRRRu p0 (1 : Int32) w_Privilege_Target_GROUP w_Privilege_Target_FOLDER w_Privilege_Target_GROUP) [(.ref w_Privilege_Target_FOLDER)])) _
      refine XS.goto X5.here hx rfl (pc0 := 65) (pc' := 71) rfl (hb hby at_65) (by decide) (by decide) ?_
      show Steps p.tables e below (T5.setTop (mkF m 71 (LS_IIRRRu p0 (1 : Int32) w_Privilege_Target_GROUP w_Privilege_Target_FOLDER w_Privilege_Target_GROUP) [(.ref w_Privilege_Target_FOLDER)])) _
      refine XS.astore X5.here hx rfl (hb hby at_71) rfl rfl (l' := (LS_IIRRRR p0 (1 : Int32) w_Privilege_Target_GROUP w_Privilege_Target_FOLDER w_Privilege_Target_GROUP w_Privilege_Target_FOLDER)) rfl ?_
      show Steps p.tables e below (T5.setTop (mkF m 73 (LS_IIRRRR p0 (1 : Int32) w_Privilege_Target_GROUP w_Privilege_Target_FOLDER w_Privilege_Target_GROUP w_Privilege_Target_FOLDER) [])) _
      refine XS.aloadN X5.here hx rfl (hb hby at_73) rfl rfl ?_
      show Steps p.tables e below (T5.setTop (mkF m 74 (LS_IIRRRR p0 (1 : Int32) w_Privilege_Target_GROUP w_Privilege_Target_FOLDER w_Privilege_Target_GROUP w_Privilege_Target_FOLDER) [(.ref w_Privilege_Target_FOLDER)])) _
      refine XS.aload X5.here hx rfl (hb hby at_74) rfl rfl ?_
      show Steps p.tables e below (T5.setTop (mkF m 76 (LS_IIRRRR p0 (1 : Int32) w_Privilege_Target_GROUP w_Privilege_Target_FOLDER w_Privilege_Target_GROUP w_Privilege_Target_FOLDER) [(.ref w_Privilege_Target_FOLDER), (.ref w_Privilege_Target_FOLDER)])) _
      refine Jvm.RoadKit.acmp (g := (mkF m 76 (LS_IIRRRR p0 (1 : Int32) w_Privilege_Target_GROUP w_Privilege_Target_FOLDER w_Privilege_Target_GROUP w_Privilege_Target_FOLDER) [(.ref w_Privilege_Target_FOLDER), (.ref w_Privilege_Target_FOLDER)])) X5 hx rfl rfl rfl (pc0 := 76) (pc' := 79) (same := true) rfl (hb hby at_76) rfl (decide_eq_true rfl) (by decide) (by decide) ?_
      show Steps p.tables e below (T5.setTop (mkF m 79 (LS_IIRRRR p0 (1 : Int32) w_Privilege_Target_GROUP w_Privilege_Target_FOLDER w_Privilege_Target_GROUP w_Privilege_Target_FOLDER) [])) _
      refine XS.iconst X5.here hx rfl (hb hby at_79) ?_
      show Steps p.tables e below (T5.setTop (mkF m 80 (LS_IIRRRR p0 (1 : Int32) w_Privilege_Target_GROUP w_Privilege_Target_FOLDER w_Privilege_Target_GROUP w_Privilege_Target_FOLDER) [(.int (1 : Int32))])) _
      refine XS.goto X5.here hx rfl (pc0 := 80) (pc' := 84) rfl (hb hby at_80) (by decide) (by decide) ?_
      exact k
    obtain ⟨fs, hr, hrun, hended, hW, hsame⟩ := X5.leave (v := some (.int (1 : Int32))) (fun h => by rw [Bd.returns] at h; cases h)
    refine ⟨_, _, ?_, hrun, hended, _, _, rfl, ?_, ⟨_, rfl⟩, hW, hsame.mono (by decide) (by decide)⟩
    · show Steps p.tables e below (T5.setTop (mkF m 84 (LS_IIRRRR p0 (1 : Int32) w_Privilege_Target_GROUP w_Privilege_Target_FOLDER w_Privilege_Target_GROUP w_Privilege_Target_FOLDER) [(.int (1 : Int32))])) _
      exact retN X5 hx (t := .boolean) Bd.returns (by simp) (hb hby at_84) hr
    · show Q0 Z p0 w_Privilege_Target_GROUP w_Privilege_Target_FOLDER h0 n0 _ T5.heap _
      rw [e5]
      exact ⟨rfl, N4⟩
  · refine own_go (B := s₁.setTop (mkF m 22 (LS_IIuuuu p0 (0 : Int32)) [])) (fun t k => ?_) ?_
    · show Steps p.tables e below (s₁.setTop (mkF m 3 (LS_Iuuuuu p0) [(.int (p0 &&& (1 : Int32)))])) _
      refine XS.ifYes X0.here hx rfl (pc0 := 3) (pc' := 10) rfl (hb hby at_3) rfl ((if0 _ _).trans (feq hc3_1).2) (by decide) (by decide) ?_
      show Steps p.tables e below (s₁.setTop (mkF m 10 (LS_Iuuuuu p0) [])) _
      refine XS.iconst X0.here hx rfl (hb hby at_10) ?_
      show Steps p.tables e below (s₁.setTop (mkF m 11 (LS_Iuuuuu p0) [(.int (0 : Int32))])) _
      refine XS.istoreN X0.here hx rfl (hb hby at_11) rfl (l' := (LS_IIuuuu p0 (0 : Int32))) rfl ?_
      show Steps p.tables e below (s₁.setTop (mkF m 12 (LS_IIuuuu p0 (0 : Int32)) [])) _
      refine XS.iloadN X0.here hx rfl (hb hby at_12) rfl ?_
      show Steps p.tables e below (s₁.setTop (mkF m 13 (LS_IIuuuu p0 (0 : Int32)) [(.int (0 : Int32))])) _
      refine XS.ifYes X0.here hx rfl (pc0 := 13) (pc' := 22) rfl (hb hby at_13) rfl ((if0 _ _).trans (teq (by decide : (0 : Int32) = (0 : Int32))).1) (by decide) (by decide) ?_
      exact k
    obtain ⟨T6, X6, e6, st6⟩ := getS2 X0 hx hZ hown (host := "") (Or.inl (hw _ (List.mem_of_getElem? (i := 11) rfl))) Via.refl e0 S_Privilege_Target_FOLDER (g := (mkF m 22 (LS_IIuuuu p0 (0 : Int32)) [])) rfl (hb hby at_22)
    refine own_go (B := T6.setTop (mkF m 25 (LS_IIuuuu p0 (0 : Int32)) [(.ref w_Privilege_Target_FOLDER)])) (fun t k => st6 _ k) ?_
    refine own_go (B := T6.setTop (mkF m 27 (LS_IIRuuu p0 (0 : Int32) w_Privilege_Target_FOLDER) [(.ref w_Privilege_Target_FOLDER)])) (fun t k => ?_) ?_
    · show Steps p.tables e below (T6.setTop (mkF m 25 (LS_IIuuuu p0 (0 : Int32)) [(.ref w_Privilege_Target_FOLDER)])) _
      refine XS.astoreN X6.here hx rfl (hb hby at_25) rfl rfl (l' := (LS_IIRuuu p0 (0 : Int32) w_Privilege_Target_FOLDER)) rfl ?_
      show Steps p.tables e below (T6.setTop (mkF m 26 (LS_IIRuuu p0 (0 : Int32) w_Privilege_Target_FOLDER) [])) _
      refine XS.aloadN X6.here hx rfl (hb hby at_26) rfl rfl ?_
      exact k
    obtain ⟨cq7, kq7, q7a, q7b, q7c⟩ := isOf hZ e6 E_Privilege_Target_FOLDER
    obtain ⟨_, _, ⟨T7, L7, k7, n7⟩, -, X7, ⟨Lc7, hQ7, l7, y7, z7⟩, st7⟩ := X6.virtualBack hx (y := (⟨"com/example/rameau/rameau/model/Privilege$Target", "other", "()Lcom/example/rameau/rameau/model/Privilege$Target;"⟩ : MethodName)) (z := (⟨"com/example/rameau/rameau/model/Privilege$Target", "other", "()Lcom/example/rameau/rameau/model/Privilege$Target;"⟩ : MethodName)) hown (mvT hZ (hw _ (List.mem_of_getElem? (i := 3) rfl))) (mvT hZ (hw _ (List.mem_of_getElem? (i := 4) rfl))) (notFace_of_selects (args := #[]) (mvT hZ (hw _ (List.mem_of_getElem? (i := 6) rfl)))) (mvT hZ (hw _ (List.mem_of_getElem? (i := 6) rfl))) (mvT hZ (hw _ (List.mem_of_getElem? (i := 5) rfl))) (by decide) (backOf (W := 0) (rm1 l Z a0 hw [] w_Privilege_Target_FOLDER w_Privilege_Target_GROUP w_Privilege_Target_FOLDER h0 n0 Z0 S_Privilege_Target_GROUP S_Privilege_Target_FOLDER) hZ (hw _ (List.mem_of_getElem? (i := 7) rfl)) (hw _ (List.mem_of_getElem? (i := 1) rfl)) (by decide) (by decide)) q7a q7c (g := (mkF m 27 (LS_IIRuuu p0 (0 : Int32) w_Privilege_Target_FOLDER) [(.ref w_Privilege_Target_FOLDER)])) rfl (by rw [hml]; rfl) (Steps.refl _) (argsL := []) (rest := []) (lenOf pd___Lcom_example_rameau_rameau_model_Privilege_Target_ rfl) rfl (by show 2 * 0 + _ ≤ _; exact Nat.le_of_eq rfl) (hb hby at_27) (fun _ _ => ⟨rfl, e6, (by decide : 0 + 0 ≤ _), (by decide : 0 + 0 ≤ _)⟩)
    dsimp only [Pt.U, Pt.locs, Pt.cells, Pt.slots] at X7 l7 y7 z7 st7 hQ7
    subst l7 y7 z7
    obtain ⟨rfl, N7q, e7⟩ := hQ7
    have N7 := Fr.app N0 N7q
    refine own_go (B := T7.setTop (mkF m 30 (LS_IIRuuu p0 (0 : Int32) w_Privilege_Target_FOLDER) [(.ref (if w_Privilege_Target_FOLDER = w_Privilege_Target_GROUP then w_Privilege_Target_FOLDER else w_Privilege_Target_GROUP))])) (fun t k => st7.trans k) ?_
    rw [show (if w_Privilege_Target_FOLDER = w_Privilege_Target_GROUP then w_Privilege_Target_FOLDER else w_Privilege_Target_GROUP) = w_Privilege_Target_GROUP from if_neg (Fld.ne F_Privilege_Target_FOLDER_ordinal F_Privilege_Target_GROUP_ordinal (by decide))]
    refine own_go (B := T7.setTop (mkF m 45 (LS_IIRRuu p0 (0 : Int32) w_Privilege_Target_FOLDER w_Privilege_Target_GROUP) [(.ref w_Privilege_Target_GROUP)])) (fun t k => ?_) ?_
    · show Steps p.tables e below (T7.setTop (mkF m 30 (LS_IIRuuu p0 (0 : Int32) w_Privilege_Target_FOLDER) [(.ref w_Privilege_Target_GROUP)])) _
      refine XS.astoreN X7.here hx rfl (hb hby at_30) rfl rfl (l' := (LS_IIRRuu p0 (0 : Int32) w_Privilege_Target_FOLDER w_Privilege_Target_GROUP)) rfl ?_
      show Steps p.tables e below (T7.setTop (mkF m 31 (LS_IIRRuu p0 (0 : Int32) w_Privilege_Target_FOLDER w_Privilege_Target_GROUP) [])) _
      refine XS.aloadN X7.here hx rfl (hb hby at_31) rfl rfl ?_
      show Steps p.tables e below (T7.setTop (mkF m 32 (LS_IIRRuu p0 (0 : Int32) w_Privilege_Target_FOLDER w_Privilege_Target_GROUP) [(.ref w_Privilege_Target_GROUP)])) _
      refine XS.ifnonnullYes X7.here hx rfl (pc0 := 32) (pc' := 37) rfl (hb hby at_32) rfl (by decide) (by decide) ?_
      show Steps p.tables e below (T7.setTop (mkF m 37 (LS_IIRRuu p0 (0 : Int32) w_Privilege_Target_FOLDER w_Privilege_Target_GROUP) [])) _
      refine XS.aloadN X7.here hx rfl (hb hby at_37) rfl rfl ?_
      show Steps p.tables e below (T7.setTop (mkF m 38 (LS_IIRRuu p0 (0 : Int32) w_Privilege_Target_FOLDER w_Privilege_Target_GROUP) [(.ref w_Privilege_Target_GROUP)])) _
      refine XS.aloadN X7.here hx rfl (hb hby at_38) rfl rfl ?_
      show Steps p.tables e below (T7.setTop (mkF m 39 (LS_IIRRuu p0 (0 : Int32) w_Privilege_Target_FOLDER w_Privilege_Target_GROUP) [(.ref w_Privilege_Target_FOLDER), (.ref w_Privilege_Target_GROUP)])) _
      refine Jvm.RoadKit.acmp (g := (mkF m 39 (LS_IIRRuu p0 (0 : Int32) w_Privilege_Target_FOLDER w_Privilege_Target_GROUP) [(.ref w_Privilege_Target_FOLDER), (.ref w_Privilege_Target_GROUP)])) X7 hx rfl rfl rfl (pc0 := 39) (pc' := 44) (same := false) rfl (hb hby at_39) rfl (decide_eq_false fun q => (Fld.ne F_Privilege_Target_GROUP_ordinal F_Privilege_Target_FOLDER_ordinal (by decide)) (Value.ref.inj q)) (by decide) (by decide) ?_
      show Steps p.tables e below (T7.setTop (mkF m 44 (LS_IIRRuu p0 (0 : Int32) w_Privilege_Target_FOLDER w_Privilege_Target_GROUP) [])) _
      refine XS.aloadN X7.here hx rfl (hb hby at_44) rfl rfl ?_
      exact k
    obtain ⟨cq8, kq8, q8a, q8b, q8c⟩ := isOf hZ e7 E_Privilege_Target_GROUP
    obtain ⟨_, _, ⟨T8, L8, k8, n8⟩, -, X8, ⟨Lc8, hQ8, l8, y8, z8⟩, st8⟩ := X7.virtualBack hx (y := (⟨"com/example/rameau/rameau/model/Privilege$Target", "other", "()Lcom/example/rameau/rameau/model/Privilege$Target;"⟩ : MethodName)) (z := (⟨"com/example/rameau/rameau/model/Privilege$Target", "other", "()Lcom/example/rameau/rameau/model/Privilege$Target;"⟩ : MethodName)) hown (mvT hZ (hw _ (List.mem_of_getElem? (i := 3) rfl))) (mvT hZ (hw _ (List.mem_of_getElem? (i := 4) rfl))) (notFace_of_selects (args := #[]) (mvT hZ (hw _ (List.mem_of_getElem? (i := 6) rfl)))) (mvT hZ (hw _ (List.mem_of_getElem? (i := 6) rfl))) (mvT hZ (hw _ (List.mem_of_getElem? (i := 5) rfl))) (by decide) (backOf (W := 0) (rm1 l Z a0 hw [] w_Privilege_Target_GROUP w_Privilege_Target_GROUP w_Privilege_Target_FOLDER h0 n0 Z0 S_Privilege_Target_GROUP S_Privilege_Target_FOLDER) hZ (hw _ (List.mem_of_getElem? (i := 7) rfl)) (hw _ (List.mem_of_getElem? (i := 1) rfl)) (by decide) (by decide)) q8a q8c (g := (mkF m 45 (LS_IIRRuu p0 (0 : Int32) w_Privilege_Target_FOLDER w_Privilege_Target_GROUP) [(.ref w_Privilege_Target_GROUP)])) rfl (by rw [hml]; rfl) (Steps.refl _) (argsL := []) (rest := []) (lenOf pd___Lcom_example_rameau_rameau_model_Privilege_Target_ rfl) rfl (by show 2 * 0 + _ ≤ _; exact Nat.le_of_eq rfl) (hb hby at_45) (fun _ _ => ⟨rfl, e7, (by decide : 0 + 0 ≤ _), (by decide : 0 + 0 ≤ _)⟩)
    dsimp only [Pt.U, Pt.locs, Pt.cells, Pt.slots] at X8 l8 y8 z8 st8 hQ8
    subst l8 y8 z8
    obtain ⟨rfl, N8q, e8⟩ := hQ8
    have N8 := Fr.app N7 N8q
    refine own_go (B := T8.setTop (mkF m 48 (LS_IIRRuu p0 (0 : Int32) w_Privilege_Target_FOLDER w_Privilege_Target_GROUP) [(.ref (if w_Privilege_Target_GROUP = w_Privilege_Target_GROUP then w_Privilege_Target_FOLDER else w_Privilege_Target_GROUP))])) (fun t k => st8.trans k) ?_
    rw [show (if w_Privilege_Target_GROUP = w_Privilege_Target_GROUP then w_Privilege_Target_FOLDER else w_Privilege_Target_GROUP) = w_Privilege_Target_FOLDER from if_pos rfl]
    refine own_go (B := T8.setTop (mkF m 68 (LS_IIRRRu p0 (0 : Int32) w_Privilege_Target_FOLDER w_Privilege_Target_GROUP w_Privilege_Target_FOLDER) [])) (fun t k => ?_) ?_
    · show Steps p.tables e below (T8.setTop (mkF m 48 (LS_IIRRuu p0 (0 : Int32) w_Privilege_Target_FOLDER w_Privilege_Target_GROUP) [(.ref w_Privilege_Target_FOLDER)])) _
      refine XS.astore X8.here hx rfl (hb hby at_48) rfl rfl (l' := (LS_IIRRRu p0 (0 : Int32) w_Privilege_Target_FOLDER w_Privilege_Target_GROUP w_Privilege_Target_FOLDER)) rfl ?_
      show Steps p.tables e below (T8.setTop (mkF m 50 (LS_IIRRRu p0 (0 : Int32) w_Privilege_Target_FOLDER w_Privilege_Target_GROUP w_Privilege_Target_FOLDER) [])) _
      refine XS.aload X8.here hx rfl (hb hby at_50) rfl rfl ?_
      show Steps p.tables e below (T8.setTop (mkF m 52 (LS_IIRRRu p0 (0 : Int32) w_Privilege_Target_FOLDER w_Privilege_Target_GROUP w_Privilege_Target_FOLDER) [(.ref w_Privilege_Target_FOLDER)])) _
      refine XS.aloadN X8.here hx rfl (hb hby at_52) rfl rfl ?_
      show Steps p.tables e below (T8.setTop (mkF m 53 (LS_IIRRRu p0 (0 : Int32) w_Privilege_Target_FOLDER w_Privilege_Target_GROUP w_Privilege_Target_FOLDER) [(.ref w_Privilege_Target_FOLDER), (.ref w_Privilege_Target_FOLDER)])) _
      refine Jvm.RoadKit.acmp (g := (mkF m 53 (LS_IIRRRu p0 (0 : Int32) w_Privilege_Target_FOLDER w_Privilege_Target_GROUP w_Privilege_Target_FOLDER) [(.ref w_Privilege_Target_FOLDER), (.ref w_Privilege_Target_FOLDER)])) X8 hx rfl rfl rfl (pc0 := 53) (pc' := 58) (same := true) rfl (hb hby at_53) rfl (decide_eq_true rfl) (by decide) (by decide) ?_
      show Steps p.tables e below (T8.setTop (mkF m 58 (LS_IIRRRu p0 (0 : Int32) w_Privilege_Target_FOLDER w_Privilege_Target_GROUP w_Privilege_Target_FOLDER) [])) _
      refine XS.iloadN X8.here hx rfl (hb hby at_58) rfl ?_
      show Steps p.tables e below (T8.setTop (mkF m 59 (LS_IIRRRu p0 (0 : Int32) w_Privilege_Target_FOLDER w_Privilege_Target_GROUP w_Privilege_Target_FOLDER) [(.int (0 : Int32))])) _
      refine XS.ifYes X8.here hx rfl (pc0 := 59) (pc' := 68) rfl (hb hby at_59) rfl ((if0 _ _).trans (teq (by decide : (0 : Int32) = (0 : Int32))).1) (by decide) (by decide) ?_
      exact k
    obtain ⟨T9, X9, e9, st9⟩ := getS2 X8 hx hZ hown (host := "") (Or.inl (hw _ (List.mem_of_getElem? (i := 0) rfl))) Via.refl e8 S_Privilege_Target_GROUP (g := (mkF m 68 (LS_IIRRRu p0 (0 : Int32) w_Privilege_Target_FOLDER w_Privilege_Target_GROUP w_Privilege_Target_FOLDER) [])) rfl (hb hby at_68)
    refine own_go (B := T9.setTop (mkF m 71 (LS_IIRRRu p0 (0 : Int32) w_Privilege_Target_FOLDER w_Privilege_Target_GROUP w_Privilege_Target_FOLDER) [(.ref w_Privilege_Target_GROUP)])) (fun t k => st9 _ k) ?_
    refine own_go (B := T9.setTop (mkF m 84 (LS_IIRRRR p0 (0 : Int32) w_Privilege_Target_FOLDER w_Privilege_Target_GROUP w_Privilege_Target_FOLDER w_Privilege_Target_GROUP) [(.int (1 : Int32))])) (fun t k => ?_) ?_
    · show Steps p.tables e below (T9.setTop (mkF m 71 (LS_IIRRRu p0 (0 : Int32) w_Privilege_Target_FOLDER w_Privilege_Target_GROUP w_Privilege_Target_FOLDER) [(.ref w_Privilege_Target_GROUP)])) _
      refine XS.astore X9.here hx rfl (hb hby at_71) rfl rfl (l' := (LS_IIRRRR p0 (0 : Int32) w_Privilege_Target_FOLDER w_Privilege_Target_GROUP w_Privilege_Target_FOLDER w_Privilege_Target_GROUP)) rfl ?_
      show Steps p.tables e below (T9.setTop (mkF m 73 (LS_IIRRRR p0 (0 : Int32) w_Privilege_Target_FOLDER w_Privilege_Target_GROUP w_Privilege_Target_FOLDER w_Privilege_Target_GROUP) [])) _
      refine XS.aloadN X9.here hx rfl (hb hby at_73) rfl rfl ?_
      show Steps p.tables e below (T9.setTop (mkF m 74 (LS_IIRRRR p0 (0 : Int32) w_Privilege_Target_FOLDER w_Privilege_Target_GROUP w_Privilege_Target_FOLDER w_Privilege_Target_GROUP) [(.ref w_Privilege_Target_GROUP)])) _
      refine XS.aload X9.here hx rfl (hb hby at_74) rfl rfl ?_
      show Steps p.tables e below (T9.setTop (mkF m 76 (LS_IIRRRR p0 (0 : Int32) w_Privilege_Target_FOLDER w_Privilege_Target_GROUP w_Privilege_Target_FOLDER w_Privilege_Target_GROUP) [(.ref w_Privilege_Target_GROUP), (.ref w_Privilege_Target_GROUP)])) _
      refine Jvm.RoadKit.acmp (g := (mkF m 76 (LS_IIRRRR p0 (0 : Int32) w_Privilege_Target_FOLDER w_Privilege_Target_GROUP w_Privilege_Target_FOLDER w_Privilege_Target_GROUP) [(.ref w_Privilege_Target_GROUP), (.ref w_Privilege_Target_GROUP)])) X9 hx rfl rfl rfl (pc0 := 76) (pc' := 79) (same := true) rfl (hb hby at_76) rfl (decide_eq_true rfl) (by decide) (by decide) ?_
      show Steps p.tables e below (T9.setTop (mkF m 79 (LS_IIRRRR p0 (0 : Int32) w_Privilege_Target_FOLDER w_Privilege_Target_GROUP w_Privilege_Target_FOLDER w_Privilege_Target_GROUP) [])) _
      refine XS.iconst X9.here hx rfl (hb hby at_79) ?_
      show Steps p.tables e below (T9.setTop (mkF m 80 (LS_IIRRRR p0 (0 : Int32) w_Privilege_Target_FOLDER w_Privilege_Target_GROUP w_Privilege_Target_FOLDER w_Privilege_Target_GROUP) [(.int (1 : Int32))])) _
      refine XS.goto X9.here hx rfl (pc0 := 80) (pc' := 84) rfl (hb hby at_80) (by decide) (by decide) ?_
      exact k
    obtain ⟨fs, hr, hrun, hended, hW, hsame⟩ := X9.leave (v := some (.int (1 : Int32))) (fun h => by rw [Bd.returns] at h; cases h)
    refine ⟨_, _, ?_, hrun, hended, _, _, rfl, ?_, ⟨_, rfl⟩, hW, hsame.mono (by decide) (by decide)⟩
    · show Steps p.tables e below (T9.setTop (mkF m 84 (LS_IIRRRR p0 (0 : Int32) w_Privilege_Target_FOLDER w_Privilege_Target_GROUP w_Privilege_Target_FOLDER w_Privilege_Target_GROUP) [(.int (1 : Int32))])) _
      exact retN X9 hx (t := .boolean) Bd.returns (by simp) (hb hby at_84) hr
    · show Q0 Z p0 w_Privilege_Target_GROUP w_Privilege_Target_FOLDER h0 n0 _ T9.heap _
      rw [e9]
      exact ⟨rfl, N8⟩
set_option maxRecDepth 65536 in
set_option maxHeartbeats 40000000 in
theorem comes_1 {Post : Tables → Env → Array Value → State → Outcome → State → Prop} (hpost : ∀ tb e args s v u, (limb_1_1.after args s (.returned v) u = true ∧ limb_1_2.after args s (.returned v) u = true ∧ True) → FrameEnd s (.returned v) u (Jvm.fieldLocs frame_1_writes args s ++ Jvm.arrayLocs frame_1_arrays args s ++ Jvm.staticLocs frame_1_statics s) 0 0 → Post tb e args s (.returned v) u) :
    ArmFor flags0 classFile x code maxLocals ret World_1 tables_1 room_1 Calls_1 rest_1 Pre_1 Post := by
  intro l hfl _ _ p e ha hc hk s m args below hf hA hF happ hP
  obtain ⟨hcalls, hrest, hpre⟩ := hP
  obtain ⟨-, -, -, hnamed, -, -, -, hat⟩ := (Spec.applies_iff hf).mp happ
  obtain ⟨hg, hn⟩ := and_e (Cond.before_iff.mp (show (Jvm.Cond.and given_1 narrow_1).before args s = true from hpre))
  obtain ⟨g1, g2⟩ := and_e hg
  obtain ⟨w0, rfl⟩ : ∃ w0 : Value, args = #[w0] := by
    have hs : args.size = 1 := by simpa [Cond.value, given_1] using g1
    obtain ⟨L⟩ := args
    match L, hs with
    | [w0], _ => exact ⟨w0, rfl⟩
  have hw := fun d (hd : d ∈ tables_1) => atoms_spec (ws := Jvm.Cond.code x code maxLocals ret :: tables_1) hat d (List.mem_cons_of_mem _ hd)
  have hfit : Fit s := fun {y c} hc i hi => by
    obtain ⟨ha, rfl⟩ := Array.getElem?_eq_some_iff.mp hc
    have q := List.all_eq_true.mp ((Array.all_eq_true_iff_forall_mem.mp hF) _ (Array.getElem_mem ha)) i (List.mem_range.mpr hi)
    simpa [Array.getElem?_eq_getElem hi] using q
  obtain ⟨i0, ei0⟩ := is_v g2
  obtain rfl : w0 = (.int i0) := Option.some.inj ei0
  obtain ⟨g3, g4⟩ := and_e hn
  obtain ⟨w_Privilege_Target_GROUP, ev_Privilege_Target_GROUP⟩ := exa_v g3
  have S_Privilege_Target_GROUP : Sta s s.heap "com/example/rameau/rameau/model/Privilege$Target" "GROUP" "Lcom/example/rameau/rameau/model/Privilege$Target;" (.ref w_Privilege_Target_GROUP) := Sta.start ev_Privilege_Target_GROUP (Or.inr ⟨(hw _ (List.mem_of_getElem? (i := 1) rfl)), (hw _ (List.mem_of_getElem? (i := 2) rfl))⟩)
  have E_Privilege_Target_GROUP : Exa s s.heap w_Privilege_Target_GROUP "com/example/rameau/rameau/model/Privilege$Target" := Exa.start ev_Privilege_Target_GROUP g3
  obtain ⟨g5, g6⟩ := and_e g4
  obtain ⟨w_Privilege_Target_FOLDER, ev_Privilege_Target_FOLDER⟩ := exa_v g5
  have S_Privilege_Target_FOLDER : Sta s s.heap "com/example/rameau/rameau/model/Privilege$Target" "FOLDER" "Lcom/example/rameau/rameau/model/Privilege$Target;" (.ref w_Privilege_Target_FOLDER) := Sta.start ev_Privilege_Target_FOLDER (Or.inr ⟨(hw _ (List.mem_of_getElem? (i := 1) rfl)), (hw _ (List.mem_of_getElem? (i := 10) rfl))⟩)
  have E_Privilege_Target_FOLDER : Exa s s.heap w_Privilege_Target_FOLDER "com/example/rameau/rameau/model/Privilege$Target" := Exa.start ev_Privilege_Target_FOLDER g5
  obtain ⟨g7, g8⟩ := and_e g6
  have F_Privilege_Target_FOLDER_ordinal : Fld s s.heap w_Privilege_Target_FOLDER "java/lang/Enum" "ordinal" "I" (.int (1 : Int32)) := Fld.start ((fld_at ev_Privilege_Target_FOLDER).symm.trans (own_eqI g7))
  have F_Privilege_Target_GROUP_ordinal : Fld s s.heap w_Privilege_Target_GROUP "java/lang/Enum" "ordinal" "I" (.int (0 : Int32)) := Fld.start ((fld_at ev_Privilege_Target_GROUP).symm.trans (own_eqI g8))
  obtain ⟨n, o, h1, h2, h3, _, L, rfl, ⟨rfl, N⟩, hq⟩ := rm0 l s _ hw tables_1 i0 w_Privilege_Target_GROUP w_Privilege_Target_FOLDER s.heap s.heap.size (Nat.le_refl _) S_Privilege_Target_GROUP E_Privilege_Target_GROUP S_Privilege_Target_FOLDER E_Privilege_Target_FOLDER F_Privilege_Target_FOLDER_ordinal F_Privilege_Target_GROUP_ordinal p e ha hc hk s m _ below hf ((Spec.applies_iff_loose hf).mp happ).1 ⟨rfl, State.Warmed39.refl s, rfl⟩ trivial
  refine ⟨n, _, h1, h2, h3, hpost _ _ _ _ _ _ ⟨Cond.after_iff.mpr rfl, Cond.after_iff.mpr (eq_i res_at (Term.int_eval (1)) rfl), trivial⟩ ⟨hq.1, hq.2.1, (hq.2.2.sift fun y hy => Or.inr (N y hy)).mono (by decide) (by decide)⟩⟩
theorem main_1_1 : Claimed_1_1 := comes_1 fun _ _ _ _ _ _ h hF => ⟨h.1, hF⟩
theorem main_1_2 : Claimed_1_2 := comes_1 fun _ _ _ _ _ _ h hF => ⟨h.2.1, hF⟩
end Jvm.Pilot.@@N@@
namespace Jvm.Pilot.@@N@@
open Jvm Jvm.ClassFile Sem Op Lib Jvm.Free Jvm.Stand Jvm.Pilot.@@N@@.Jvm.D
/-! MADE BY PROGRAM (witnessworld.py) out of the Statement's table words and the real class files: 12 classes; the members and pool entries that the words name. The judged class is class 1, her method 1. -/
namespace start1
open Jvm.ClassFile
def u (s : String) : CpInfo := .utf8 (stringToUtf16 s)
/-- a pool by its gaps: so many unusable entries, then the entry; so many at the end -/
def gap : Nat → List CpInfo → List CpInfo
  | 0, r => r
  | n + 1, r => .unusable :: gap n r
def poolList (es : List (Nat × CpInfo)) (last : Nat) : List CpInfo := es.foldr (fun e r => gap e.1 (e.2 :: r)) (gap last [])
def pool (es : List (Nat × CpInfo)) (last : Nat) : Array CpInfo := ⟨poolList es last⟩
def fileOf (pool : Array CpInfo) (this : Nat) (attrs : Array Attribute := #[]) (ms : Array MethodInfo := #[]) (fl : Nat := 33) (sup : Nat := 0) (ifs : Array Nat := #[]) (fds : Array FieldInfo := #[]) : ClassFile where
  minorVersion := 0
  majorVersion := 65
  constantPool := pool
  accessFlags := fl
  thisClass := this
  superClass := sup
  interfaces := ifs
  fields := fds
  methods := ms
  attributes := attrs
def plain (name : String) (sup : Option ClassId) : Class where
  name := name
  kind := .ordinary
  loader := none
  accessFlags := 33
  super := sup
  interfaces := #[]
  cf := none
  fields := #[]
  methods := #[]
  instanceTypes := #[]
  staticTypes := #[]
  resolved := #[]
  callSites := []
  init := .initialized
  statics := none
  mirror := none

def pool0 : Array CpInfo := pool [(5, u "<init>"), (0, u "()V"), (1, .class_ 10), (1, u "java/lang/Object")] 113

def k0m0 : Method := { name := "<init>", desc := "()V", sig := { parameters := [], returnType := none }, accessFlags := 1, code := none }
/-- java/lang/Object -/
def k0 : Class := { plain "java/lang/Object" none with
  accessFlags := 33
  interfaces := #[]
  cf := some (fileOf pool0 8 #[] #[{ accessFlags := 1, nameIndex := 5, descriptorIndex := 6, attributes := #[] }] 33 0 #[] #[])
  fields := #[]
  methods := #[k0m0]
  instanceTypes := #[]
  staticTypes := #[]
  resolved := Array.replicate 124 none
  statics := none }

def pool1 : Array CpInfo := pool [(2, .class_ 4), (1, u "java/lang/Object"), (0, u "<init>"), (0, u "()V"), (0, .fieldref 8 9), (0, .class_ 10), (0, .nameAndType 11 12), (0, u "com/example/rameau/rameau/model/Privilege$Target"), (0, u "GROUP"), (0, u "Lcom/example/rameau/rameau/model/Privilege$Target;"), (0, .fieldref 8 14), (0, .nameAndType 15 12), (0, u "FOLDER"), (0, .methodref 8 17), (0, .nameAndType 18 19), (0, u "other"), (0, u "()Lcom/example/rameau/rameau/model/Privilege$Target;"), (0, .class_ 21), (0, u "com/example/rameau/rameau/model/TargetOtherPinLaw"), (2, u "law"), (0, u "(I)Z")] 7

def k1m0 : Method := { name := "<init>", desc := "()V", sig := { parameters := [], returnType := none }, accessFlags := 1, code := none }
def k1c1 : Code := { maxStack := 2, maxLocals := 6, code := code, exceptionTable := #[], attributes := #[] }
def k1m1 : Method := { name := "law", desc := "(I)Z", sig := { parameters := [.int], returnType := some .boolean }, accessFlags := 9, code := some k1c1 }
/-- com/example/rameau/rameau/model/TargetOtherPinLaw -/
def k1 : Class := { plain "com/example/rameau/rameau/model/TargetOtherPinLaw" (some 0) with
  accessFlags := 49
  interfaces := #[]
  cf := some (fileOf pool1 20 #[] #[{ accessFlags := 1, nameIndex := 5, descriptorIndex := 6, attributes := #[] }, { accessFlags := 9, nameIndex := 24, descriptorIndex := 25, attributes := #[] }] 49 2 #[] #[])
  fields := #[]
  methods := #[k1m0, k1m1]
  instanceTypes := #[]
  staticTypes := #[]
  resolved := Array.replicate 33 none
  statics := none }

def pool2 : Array CpInfo := pool [(1, .class_ 2), (0, u "java/lang/constant/Constable"), (0, .class_ 4), (0, u "java/lang/Object")] 6

/-- java/lang/constant/Constable -/
def k2 : Class := { plain "java/lang/constant/Constable" (some 0) with
  accessFlags := 1537
  interfaces := #[]
  cf := some (fileOf pool2 1 #[] #[] 1537 3 #[] #[])
  fields := #[]
  methods := #[]
  instanceTypes := #[]
  staticTypes := #[]
  resolved := Array.replicate 11 none
  statics := none }

def pool3 : Array CpInfo := pool [(1, .class_ 2), (0, u "java/lang/Comparable"), (0, .class_ 4), (0, u "java/lang/Object")] 7

/-- java/lang/Comparable -/
def k3 : Class := { plain "java/lang/Comparable" (some 0) with
  accessFlags := 1537
  interfaces := #[]
  cf := some (fileOf pool3 1 #[] #[] 1537 3 #[] #[])
  fields := #[]
  methods := #[]
  instanceTypes := #[]
  staticTypes := #[]
  resolved := Array.replicate 12 none
  statics := none }

def pool4 : Array CpInfo := pool [(1, .class_ 2), (0, u "java/io/Serializable"), (0, .class_ 4), (0, u "java/lang/Object")] 2

/-- java/io/Serializable -/
def k4 : Class := { plain "java/io/Serializable" (some 0) with
  accessFlags := 1537
  interfaces := #[]
  cf := some (fileOf pool4 1 #[] #[] 1537 3 #[] #[])
  fields := #[]
  methods := #[]
  instanceTypes := #[]
  staticTypes := #[]
  resolved := Array.replicate 7 none
  statics := none }

def pool5 : Array CpInfo := pool [(2, .class_ 4), (1, u "java/lang/Enum"), (0, u "name"), (0, u "Ljava/lang/String;"), (2, u "ordinal"), (0, u "I"), (1, .class_ 14), (1, u "java/lang/Object"), (4, u "hash"), (86, .class_ 108), (1, u "java/lang/Enum$EnumDesc"), (2, .class_ 112), (0, u "java/lang/constant/Constable"), (0, .class_ 114), (0, u "java/lang/Comparable"), (0, .class_ 116), (0, u "java/io/Serializable")] 87

/-- java/lang/Enum -/
def k5 : Class := { plain "java/lang/Enum" (some 0) with
  accessFlags := 1057
  interfaces := #[2, 3, 4]
  cf := some (fileOf pool5 2 #[.nestMembers #[106]] #[] 1057 12 #[111, 113, 115] #[{ accessFlags := 18, nameIndex := 5, descriptorIndex := 6, attributes := #[] }, { accessFlags := 18, nameIndex := 9, descriptorIndex := 10, attributes := #[] }, { accessFlags := 2, nameIndex := 19, descriptorIndex := 10, attributes := #[] }])
  fields := #[{ name := "name", type := (.object "java/lang/String"), accessFlags := 18, slot := 0, constantValue := 0 }, { name := "ordinal", type := .int, accessFlags := 18, slot := 1, constantValue := 0 }, { name := "hash", type := .int, accessFlags := 2, slot := 2, constantValue := 0 }]
  methods := #[]
  instanceTypes := #[(.object "java/lang/String"), .int, .int]
  staticTypes := #[]
  resolved := Array.replicate 204 none
  statics := none }

def pool6 : Array CpInfo := pool [(1, .class_ 2), (0, u "com/example/rameau/rameau/model/Privilege$Target"), (0, .fieldref 1 4), (0, .nameAndType 5 6), (0, u "GROUP"), (0, u "Lcom/example/rameau/rameau/model/Privilege$Target;"), (0, .fieldref 1 8), (0, .nameAndType 9 6), (0, u "FOLDER"), (2, u "$VALUES"), (0, u "[Lcom/example/rameau/rameau/model/Privilege$Target;"), (6, .class_ 22), (1, u "java/lang/Enum"), (23, .class_ 48), (1, u "com/example/rameau/rameau/model/Privilege"), (23, u "other"), (0, u "()Lcom/example/rameau/rameau/model/Privilege$Target;")] 7

def k6c0 : Code := { maxStack := 2, maxLocals := 1, code := prog_20_method_6_code, exceptionTable := #[], attributes := #[] }
def k6m0 : Method := { name := "other", desc := "()Lcom/example/rameau/rameau/model/Privilege$Target;", sig := { parameters := [], returnType := some (.object "com/example/rameau/rameau/model/Privilege$Target") }, accessFlags := 1, code := some k6c0 }
/-- com/example/rameau/rameau/model/Privilege$Target -/
def k6 : Class := { plain "com/example/rameau/rameau/model/Privilege$Target" (some 5) with
  accessFlags := 16433
  interfaces := #[]
  cf := some (fileOf pool6 1 #[.nestHost 46] #[{ accessFlags := 1, nameIndex := 72, descriptorIndex := 73, attributes := #[] }] 16433 20 #[] #[{ accessFlags := 16409, nameIndex := 5, descriptorIndex := 6, attributes := #[] }, { accessFlags := 16409, nameIndex := 9, descriptorIndex := 6, attributes := #[] }, { accessFlags := 4122, nameIndex := 12, descriptorIndex := 13, attributes := #[] }])
  fields := #[{ name := "GROUP", type := (.object "com/example/rameau/rameau/model/Privilege$Target"), accessFlags := 16409, slot := 0, constantValue := 0 }, { name := "FOLDER", type := (.object "com/example/rameau/rameau/model/Privilege$Target"), accessFlags := 16409, slot := 1, constantValue := 0 }, { name := "$VALUES", type := (.array (.object "com/example/rameau/rameau/model/Privilege$Target")), accessFlags := 4122, slot := 2, constantValue := 0 }]
  methods := #[k6m0]
  instanceTypes := #[(.object "java/lang/String"), .int, .int]
  staticTypes := #[(.object "com/example/rameau/rameau/model/Privilege$Target"), (.object "com/example/rameau/rameau/model/Privilege$Target"), (.array (.object "com/example/rameau/rameau/model/Privilege$Target"))]
  resolved := Array.replicate 81 none
  statics := some 0 }

def pool7 : Array CpInfo := pool [(1, u "java/lang/Cloneable"), (0, .class_ 1), (0, u "java/lang/Object"), (0, .class_ 3)] 3

/-- java/lang/Cloneable -/
def k7 : Class := { plain "java/lang/Cloneable" (some 0) with
  accessFlags := 1537
  interfaces := #[]
  cf := some (fileOf pool7 2 #[] #[] 1537 4 #[] #[])
  fields := #[]
  methods := #[]
  instanceTypes := #[]
  staticTypes := #[]
  resolved := Array.replicate 8 none
  statics := none }

/-- the primitive byte -/
def k8 : Class := { plain "byte" none with kind := .primitive 'B', accessFlags := 0x411 }
/-- [B -/
def k9 : Class := { plain "[B" (some 0) with kind := .array 8 .byte, interfaces := #[7, 4], accessFlags := 1041 }

/-- the primitive int -/
def k10 : Class := { plain "int" none with kind := .primitive 'I', accessFlags := 0x411 }
/-- [I -/
def k11 : Class := { plain "[I" (some 0) with kind := .array 10 .int, interfaces := #[7, 4], accessFlags := 1041 }

def heap : Heap := #[{ cls := 6, slots := #[.ref 1, .ref 2, .null], vm := .statics 6 },
  { cls := 6, slots := #[.null, .int 0, .int 0], vm := .none },
  { cls := 6, slots := #[.null, .int 1, .int 0], vm := .none }]
def classes : Array Class := #[k0, k1, k2, k3, k4, k5, k6, k7, k8, k9, k10, k11]
def interned : List (Array UInt16 × Addr) := []
def slotsUsed : Nat := 9
def theMethod : MethodId := ⟨1, 1⟩
def args0 : Array Value := #[.int 5]
def aboutOver (below : List Frame) : State where
  vm := { classes := classes, interned := interned.toArray }
  heap := heap
  slotsUsed := slotsUsed
  threads := #[{ frames := .invoking theMethod args0 :: below }]
def below0 : List Frame := [.native { method := ⟨0, 0⟩, args := #[] }]
def about1 : State := aboutOver below0
def p0 : Program := .bare "" "" ""
def e0 : Env := launch0.env 0 0 0
theorem w_frames : about1.frames = Frame.invoking theMethod args0 :: below0 := rfl
set_option maxRecDepth 65536 in
theorem w_args : argsFit about1.vm theMethod args0 = true := by decide +kernel
set_option maxRecDepth 65536 in
theorem w_heap : heapFits about1 = true := by decide +kernel
set_option maxRecDepth 65536 in
theorem w_runnable : about1.curStatus? = some .runnable := by decide +kernel
set_option maxRecDepth 65536 in
theorem w_alone : about1.alone = true := by decide +kernel
set_option maxRecDepth 65536 in
theorem w_named : about1.methodNamed? x = some theMethod := by decide +kernel
set_option maxRecDepth 65536 in
theorem w_hears : about1.hears theMethod below0 = true := by decide +kernel
set_option maxRecDepth 65536 in
theorem w_ripe : about1.ripe theMethod args0 below0 = true := by decide +kernel
theorem w_running : about1.status = .running := rfl
set_option maxRecDepth 65536 in
theorem w_room : about1.hasRoom e0.platform room_1 = true :=
  launch0.hasRoom_least _ room_1 (by decide +kernel) (by decide +kernel) (by decide +kernel) (by decide +kernel) (by decide +kernel) (by decide +kernel)
theorem allAtoms_all (ts : List Jvm.Cond) (a : Array Jvm.Value) (st : Jvm.State) : (allAtoms ts).before a st = ts.all (fun c => c.before a st) := by
  induction ts with
  | nil => rfl
  | cons c t ih =>
    show (Jvm.Cond.and c (allAtoms t)).before a st = _
    rw [Jvm.Cond.before_and, ih, List.all_cons]
def words1 : List Jvm.Cond := Jvm.Cond.code x code maxLocals ret :: tables_1
/-- a 'code' word, met by the world's own term for the bytes: nothing is compared byte by byte -/
theorem code_word {y : MethodName} {bytes : ByteArray} {mx : Nat} {rt : Option FieldType} {a : Array Value} {s : State} {m : MethodId} {meth : Method} {c : Code} (h1 : s.methodNamed? y = some m) (h2 : s.vm.method? m = some meth) (h3 : meth.code = some c) (h4 : c.code = bytes)
    (h5 : (c.maxLocals == mx && c.exceptionTable.isEmpty && decide (c.maxStack ≤ mostOperands) && decide (meth.sig.returnType = rt) && !meth.locks && decide (parseMethodDescriptor y.desc = some meth.sig)) = true) : (Jvm.Cond.code y bytes mx rt).before a s = true := by
  simp only [Bool.and_eq_true, beq_iff_eq, Bool.not_eq_true', decide_eq_true_eq] at h5
  obtain ⟨⟨⟨⟨⟨g1, g2⟩, g3⟩, g4⟩, g5⟩, g6⟩ := h5
  simp [Cond.before, Cond.holds, Cond.value, h1, h2, h3, h4, g1, g2, g3, g4, g5, g6]
def isCode : Jvm.Cond → Bool
  | .code _ _ _ _ => true
  | _ => false
theorem all_split {L : List Jvm.Cond} {P : Jvm.Cond → Bool} (h1 : L.all (fun c => isCode c || P c) = true) (h2 : ∀ c ∈ L.filter isCode, P c = true) : L.all P = true := by
  refine List.all_eq_true.mpr fun c hc => ?_
  have h := List.all_eq_true.mp h1 c hc
  rcases Bool.eq_false_or_eq_true (isCode c) with hi | hi
  · exact h2 c (List.mem_filter.mpr ⟨hc, hi⟩)
  · simpa [hi] using h
set_option maxRecDepth 65536 in
theorem w_c0 : (Jvm.Cond.code x code maxLocals ret).before args0 about1 = true := code_word (m := ⟨1, 1⟩) (meth := k1m1) (c := k1c1) (by decide +kernel) rfl rfl rfl (by decide +kernel)
set_option maxRecDepth 65536 in
theorem w_c1 : (Jvm.Cond.code ({ cls := "com/example/rameau/rameau/model/Privilege$Target", name := "other", desc := "()Lcom/example/rameau/rameau/model/Privilege$Target;" } : Jvm.MethodName) prog_20_method_6_code (1 : Nat) (Option.some (Jvm.ClassFile.FieldType.object "com/example/rameau/rameau/model/Privilege$Target"))).before args0 about1 = true := code_word (m := ⟨6, 0⟩) (meth := k6m0) (c := k6c0) (by decide +kernel) rfl rfl rfl (by decide +kernel)
def codes1 : List Jvm.Cond := [Jvm.Cond.code x code maxLocals ret, Jvm.Cond.code ({ cls := "com/example/rameau/rameau/model/Privilege$Target", name := "other", desc := "()Lcom/example/rameau/rameau/model/Privilege$Target;" } : Jvm.MethodName) prog_20_method_6_code (1 : Nat) (Option.some (Jvm.ClassFile.FieldType.object "com/example/rameau/rameau/model/Privilege$Target"))]
set_option maxRecDepth 65536 in
theorem codes_eq : words1.filter isCode = codes1 := rfl
theorem w_codes : ∀ c ∈ words1.filter isCode, c.before args0 about1 = true := by
  rw [codes_eq]
  intro c hc
  simp only [codes1, List.mem_cons, List.not_mem_nil, or_false] at hc
  rcases hc with rfl | rfl
  · exact w_c0
  · exact w_c1
set_option maxRecDepth 65536 in
theorem w_t1 : words1.all (fun c => isCode c || c.before args0 about1) = true := by decide +kernel
theorem w_tables : (allAtoms (Jvm.Cond.code x code maxLocals ret :: tables_1)).before args0 about1 = true := by
  rw [allAtoms_all]
  show words1.all (fun c => c.before args0 about1) = true
  refine all_split ?_ w_codes
  rw [w_t1]
set_option maxRecDepth 65536 in
theorem w_case : (Jvm.Cond.and given_1 narrow_1).before args0 about1 = true := by decide +kernel
theorem w_applies : (headSpec (Jvm.Cond.code x code maxLocals ret :: tables_1) room_1).applies x e0.platform about1 = true :=
  (Spec.applies_iff w_frames).mpr ⟨w_running, w_runnable, w_alone, w_named, w_hears, w_ripe, w_room, w_tables⟩
theorem atStart : AtStart classFile x code maxLocals ret World_1 tables_1 room_1 Calls_1 rest_1 Pre_1 launch0 p0 e0 about1 theMethod args0 below0 :=
  ⟨lists_1, trivial, launch0.admits_env _ _ _, launch0.least_env, fairChoices_fair.cas, fairChoices_fair.clock, w_frames, w_args, w_heap, w_applies, trivial, trivial, w_case⟩
end start1
theorem witness_1 : WitnessClaimed_1 := ⟨start1.p0, start1.e0, start1.about1, start1.theMethod, start1.args0, start1.below0, start1.atStart⟩
end Jvm.Pilot.@@N@@
