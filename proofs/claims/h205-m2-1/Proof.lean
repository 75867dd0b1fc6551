import JvmDerived
import JvmDerived.Pilot.@@N@@Statement
import JvmDerived.Pilot.@@N@@Code
set_option linter.unusedVariables false
set_option linter.unusedSimpArgs false
@@BLOCK:NumsL.lean.txt@@
namespace Jvm.Pilot.@@N@@
open Jvm Jvm.ClassFile Sem Op Lib Jvm.Free Jvm.Stand Jvm.LawKit Jvm.RoadKit Bundle Jvm.Pilot.@@N@@.Jvm.D
/-- two roads that come together: the rest is shown once, for every state and value with which they come -/
theorem own_join {p : Program} {l : Launch} {e : Env} {R : Room} {s : State} {m : MethodId} {args : Array Value} {below : List Frame} {meth : Method} {c : Code} {T : State} {locs : List Loc} {cells slots : Nat} {A : State} {P : State → Outcome → Prop}
    (X : Stand p l e R s m args below meth c T locs cells slots) {ι : Type} (Φ : ι → State → Prop) (B : ι → JFrame)
    (rest : ∀ i T', Stand p l e R s m args below meth c T' locs cells slots → Φ i T' → ∃ s₂ o, Steps p.tables e below (T'.setTop (B i)) s₂ ∧ P s₂ o)
    (come : (∀ i T', Stand p l e R s m args below meth c T' locs cells slots → Φ i T' → ∃ s₂ o, Steps p.tables e below (T'.setTop (B i)) s₂ ∧ P s₂ o) → ∃ s₂ o, Steps p.tables e below A s₂ ∧ P s₂ o) : ∃ s₂ o, Steps p.tables e below A s₂ ∧ P s₂ o := come rest
theorem own_joinH {p : Program} {l : Launch} {e : Env} {R : Room} {s : State} {m : MethodId} {args : Array Value} {below : List Frame} {meth : Method} {c : Code} {T : State} {locs : List Loc} {cells slots n0 : Nat} {A : State} {P : State → Outcome → Prop}
    (X : Stand p l e R s m args below meth c T locs cells slots) (N : Fr n0 locs) {ι : Type} (cells' slots' : Nat) (Φ : ι → Heap → Prop) (B : ι → JFrame)
    (rest : ∀ i T' locs', Stand p l e R s m args below meth c T' locs' cells' slots' → Fr n0 locs' → Φ i T'.heap → ∃ s₂ o, Steps p.tables e below (T'.setTop (B i)) s₂ ∧ P s₂ o)
    (come : (∀ i T' locs', Stand p l e R s m args below meth c T' locs' cells' slots' → Fr n0 locs' → Φ i T'.heap → ∃ s₂ o, Steps p.tables e below (T'.setTop (B i)) s₂ ∧ P s₂ o) → ∃ s₂ o, Steps p.tables e below A s₂ ∧ P s₂ o) : ∃ s₂ o, Steps p.tables e below A s₂ ∧ P s₂ o := come rest
theorem own_mono {p : Program} {l : Launch} {e : Env} {R : Room} {s : State} {m : MethodId} {args : Array Value} {below : List Frame} {meth : Method} {c : Code} {T : State} {locs : List Loc} {cells slots cells' slots' : Nat}
    (X : Stand p l e R s m args below meth c T locs cells slots) (h1 : cells ≤ cells') (h2 : slots ≤ slots') : Stand p l e R s m args below meth c T locs cells' slots' := { X with same := X.same.mono h1 h2 }
theorem own_sta_keep {Z : State} {h h' : Heap} {C n d : String} {v : Value} {ws : List Addr} (F : Sta Z h C n d v) (K : Keep h h' ws) (q : ∀ x ∈ ws, ∀ c : Cell, h[x]? = some c → c.vm.isStatics = false) : Sta Z h' C n d v := by
  obtain ⟨cf, i, k, f, st, cell, h1, h2, h3, h4, h5, h6, h7⟩ := F
  refine ⟨cf, i, k, f, st, cell, h1, h2, h3, h4, K.2.1 st cell h5 fun hm => ?_, h6, h7⟩
  rw [q st hm cell h5] at h6
  cases h6
theorem own_plain_E {Z : State} {h : Heap} {a : Addr} {C : String} (F : Exa Z h a C) : ∀ c : Cell, h[a]? = some c → c.vm.isStatics = false := by
  obtain ⟨cell, k, h1, h2, h3, h4, h5⟩ := F
  intro c hc
  cases h1.symm.trans hc
  exact h4
theorem own_plain_V {Z : State} {h : Heap} {a : Addr} {k : ClassId} {ty : FieldType} {n : Int32} {vs : List Value} {d : Value} (F : Arv Z h a k ty n vs d) : ∀ c : Cell, h[a]? = some c → c.vm.isStatics = false := by
  obtain ⟨cell, A, -⟩ := F
  intro c hc
  cases A.1.symm.trans hc
  exact A.plain
/-- a stretch of the road, then the rest -/
theorem own_go {tb : Tables} {e : Env} {below : List Frame} {A B : State} {P : State → Outcome → Prop} (h : ∀ t, Steps tb e below B t → Steps tb e below A t) (k : ∃ s₂ o, Steps tb e below B s₂ ∧ P s₂ o) : ∃ s₂ o, Steps tb e below A s₂ ∧ P s₂ o := by
  obtain ⟨s₂, o, h1, h2⟩ := k
  exact ⟨s₂, o, h s₂ h1, h2⟩
theorem own_eqI {args : Array Value} {first s : State} {o : Option Outcome} {idx : List Nat} {t : Term} {k : Int32} (h : (Jvm.Cond.eq t (.int k)).value args first o s idx = some true) : t.eval args first o idx s = some (.int k) := by
  simp only [Jvm.Cond.value, Term.eval] at h
  cases ht : t.eval args first o idx s with
  | none => simp [ht] at h
  | some x => cases x <;> simp [ht] at h ⊢; exact h
theorem own_eqJ {args : Array Value} {first s : State} {o : Option Outcome} {idx : List Nat} {t : Term} {k : Int64} (h : (Jvm.Cond.eq t (.long k)).value args first o s idx = some true) : t.eval args first o idx s = some (.long k) := by
  simp only [Jvm.Cond.value, Term.eval] at h
  cases ht : t.eval args first o idx s with
  | none => simp [ht] at h
  | some x => cases x <;> simp [ht] at h ⊢; exact h
theorem own_eqR {args : Array Value} {first s : State} {o : Option Outcome} {idx : List Nat} {t u : Term} {a : Addr} (h : (Jvm.Cond.eq t u).value args first o s idx = some true) (hu : u.eval args first o idx s = some (.ref a)) : t.eval args first o idx s = some (.ref a) := by
  simp only [Jvm.Cond.value] at h
  cases ht : t.eval args first o idx s with
  | none => simp [ht] at h
  | some x => cases x <;> simp [ht, hu] at h ⊢; exact h
theorem own_mod6 (x : Int32) : (x &&& (2147483647 : Int32)) % (6 : Int32) = (0 : Int32) ∨ (x &&& (2147483647 : Int32)) % (6 : Int32) = (1 : Int32) ∨ (x &&& (2147483647 : Int32)) % (6 : Int32) = (2 : Int32) ∨ (x &&& (2147483647 : Int32)) % (6 : Int32) = (3 : Int32) ∨ (x &&& (2147483647 : Int32)) % (6 : Int32) = (4 : Int32) ∨ (x &&& (2147483647 : Int32)) % (6 : Int32) = (5 : Int32) := by
  have hm : (x &&& (2147483647 : Int32)).toInt = x.toInt % 2 ^ 31 := Jvm.Kit.i32_mask x 2147483647 (k := 31) (by decide) (by decide)
  have h : ((x &&& (2147483647 : Int32)) % (6 : Int32)).toInt = (x.toInt % 2 ^ 31) % 6 := by
    rw [Int32.toInt_mod, hm]
    exact Int.tmod_eq_emod_of_nonneg (by omega)
  simp only [← Int32.toInt_inj, h, Int32.reduceToInt]
  omega
theorem ef_1_0 (m : MethodId) (r0 : Addr) : entryFrame m #[(.ref r0), (.int (0 : Int32))] 2 = mkF m 0 #[.val (.ref r0), .val (.int (0 : Int32))] [] := by first | (simp [entryFrame, mkF, argsToLocals, Value.category]; done) | rfl
theorem pn_1 : plainName "com/example/refbound/refbound/dialect/tsql/ObjectClass" = true := by first | (simp [plainName, overriddenIn]; done) | decide +kernel
abbrev LS_RI (a0 : Addr) (a1 : Int32) : Array Slot := #[.val (.ref a0), .val (.int a1)]
theorem d1_0 : decode prog_33_method_7_code 0 = .ok (.iload_n 1, 1) := by decide +kernel
theorem d1_1 : decode prog_33_method_7_code 1 = .ok (.ifCond .eq 10, 3) := by decide +kernel
theorem d1_11 : decode prog_33_method_7_code 11 = .ok (.aload_n 0, 1) := by decide +kernel
theorem d1_12 : decode prog_33_method_7_code 12 = .ok (.getfield 45, 3) := by decide +kernel
theorem d1_15 : decode prog_33_method_7_code 15 = .ok (.areturn, 1) := by decide +kernel
def Q1_0 (Z : State) (r0 : Addr) (w0 : Addr) (h0 : Heap) (n0 : Nat) (v : Option Value) (h : Heap) (L : List Loc) : Prop := v = some (.ref w0) ∧ Fr n0 L ∧ h = h0
set_option maxRecDepth 65536 in
set_option maxHeartbeats 40000000 in
theorem rm1_0 (l : Launch) (Z : State) (a0 : Array Value) (hw : ∀ d ∈ tables_1, d.before a0 Z = true) (ws : List Jvm.Cond) (r0 : Addr) (w0 : Addr) (h0 : Heap) (n0 : Nat) (Z0 : n0 ≤ h0.size) (F0 : Fld Z h0 r0 "com/example/refbound/refbound/dialect/tsql/ObjectClass" "written" "Lcom/example/refbound/refbound/catalog/ObjectKind;" (.ref w0)) :
    MetFree l (⟨"com/example/refbound/refbound/dialect/tsql/ObjectClass", "kind", "(Z)Lcom/example/refbound/refbound/catalog/ObjectKind;"⟩ : MethodName) (head1 (Jvm.Cond.code (⟨"com/example/refbound/refbound/dialect/tsql/ObjectClass", "kind", "(Z)Lcom/example/refbound/refbound/catalog/ObjectKind;"⟩ : MethodName) prog_33_method_7_code 2 (some (.object "com/example/refbound/refbound/catalog/ObjectKind")) :: ws) ({ frames := 0, cells := 0, slots := 0, locals := 0 } : Room)) (fun a U => a = #[(.ref r0), (.int (0 : Int32))] ∧ Z.Warmed39 U.vm ∧ U.heap = h0) (fun _ _ _ _ _ => True) (fun _ U o U' => ∃ v L, o = .returned v ∧ Q1_0 Z r0 w0 h0 n0 v U'.heap L ∧ FrameEnd U o U' L ({ frames := 0, cells := 0, slots := 0, locals := 0 } : Room).cells ({ frames := 0, cells := 0, slots := 0, locals := 0 } : Room).slots) := by
  refine MetFree.of_bodySF (plainFor_of_name pn_1) hisR ?_
  intro p e s m args below meth c s₁ Bd hml0 hP hK
  obtain ⟨rfl, hZ, hh⟩ := hP
  have hx := Bd.exec
  have hby := Bd.bytes
  have hml : c.maxLocals = 2 := hml0
  have hown : s.vm.findClass "com/example/refbound/refbound/dialect/tsql/ObjectClass" = some m.cls := findClass_of_methodNamed Bd.named
  have hnm := (name_of_methodNamed Bd.named Bd.method).1
  have X0 : Stand p l e ({ frames := 0, cells := 0, slots := 0, locals := 0 } : Room) s m #[(.ref r0), (.int (0 : Int32))] below meth c s₁ [] 0 0 := Stand.of_body Bd
  have e0 : s₁.heap = h0 := by rw [← hh, Bd.state]; rfl
  have N0 := Fr.nil n0
  refine own_go (B := s₁.setTop (mkF m 0 (LS_RI r0 (0 : Int32)) [])) (fun t k => castTop (ef_1_0 m r0) k) ?_
  refine own_go (B := s₁.setTop (mkF m 12 (LS_RI r0 (0 : Int32)) [(.ref r0)])) (fun t k => ?_) ?_
  · show Steps p.tables e below (s₁.setTop (mkF m 0 (LS_RI r0 (0 : Int32)) [])) _
    refine XS.iloadN X0.here hx rfl (hb hby d1_0) rfl ?_
    show Steps p.tables e below (s₁.setTop (mkF m 1 (LS_RI r0 (0 : Int32)) [(.int (0 : Int32))])) _
    refine XS.ifYes X0.here hx rfl (pc0 := 1) (pc' := 11) rfl (hb hby d1_1) rfl ((if0 _ _).trans (teq (by decide : (0 : Int32) = (0 : Int32))).1) (by decide) (by decide) ?_
    show Steps p.tables e below (s₁.setTop (mkF m 11 (LS_RI r0 (0 : Int32)) [])) _
    refine XS.aloadN X0.here hx rfl (hb hby d1_11) rfl rfl ?_
    exact k
  obtain ⟨T1, X1, e1, st1⟩ := getF X0 hx hZ hown (host := "") (Or.inl (hw _ (List.mem_of_getElem? (i := 20) rfl))) Via.refl e0 F0 (g := (mkF m 12 (LS_RI r0 (0 : Int32)) [(.ref r0)])) rfl rfl (hb hby d1_12)
  refine own_go (B := T1.setTop (mkF m 15 (LS_RI r0 (0 : Int32)) [(.ref w0)])) (fun t k => st1 _ k) ?_
  obtain ⟨fs, hr, hrun, hended, hW, hsame⟩ := X1.leave (v := some (.ref w0)) (fun h => by rw [Bd.returns] at h; cases h)
  refine ⟨_, _, ?_, hrun, hended, _, _, rfl, ?_, ⟨_, rfl⟩, hW, hsame.mono (by decide) (by decide)⟩
  · show Steps p.tables e below (T1.setTop (mkF m 15 (LS_RI r0 (0 : Int32)) [(.ref w0)])) _
    exact retOut X1 hx Bd.returns rfl (Or.inr (Or.inr (Or.inr (Or.inr ⟨rfl, rfl, rfl⟩)))) (hb hby d1_15) hr
  · show Q1_0 Z r0 w0 h0 n0 _ T1.heap _
    rw [e1]
    exact ⟨rfl, N0, rfl⟩
theorem ef_1_1 (m : MethodId) (r0 : Addr) : entryFrame m #[(.ref r0), (.int (1 : Int32))] 2 = mkF m 0 #[.val (.ref r0), .val (.int (1 : Int32))] [] := by first | (simp [entryFrame, mkF, argsToLocals, Value.category]; done) | rfl
theorem d1_4 : decode prog_33_method_7_code 4 = .ok (.aload_n 0, 1) := by decide +kernel
theorem d1_5 : decode prog_33_method_7_code 5 = .ok (.getfield 49, 3) := by decide +kernel
theorem d1_8 : decode prog_33_method_7_code 8 = .ok (.goto 7, 3) := by decide +kernel
def Q1_1 (Z : State) (r0 : Addr) (w0 : Addr) (h0 : Heap) (n0 : Nat) (v : Option Value) (h : Heap) (L : List Loc) : Prop := v = some (.ref w0) ∧ Fr n0 L ∧ h = h0
set_option maxRecDepth 65536 in
set_option maxHeartbeats 40000000 in
theorem rm1_1 (l : Launch) (Z : State) (a0 : Array Value) (hw : ∀ d ∈ tables_1, d.before a0 Z = true) (ws : List Jvm.Cond) (r0 : Addr) (w0 : Addr) (h0 : Heap) (n0 : Nat) (Z0 : n0 ≤ h0.size) (F0 : Fld Z h0 r0 "com/example/refbound/refbound/dialect/tsql/ObjectClass" "external" "Lcom/example/refbound/refbound/catalog/ObjectKind;" (.ref w0)) :
    MetFree l (⟨"com/example/refbound/refbound/dialect/tsql/ObjectClass", "kind", "(Z)Lcom/example/refbound/refbound/catalog/ObjectKind;"⟩ : MethodName) (head1 (Jvm.Cond.code (⟨"com/example/refbound/refbound/dialect/tsql/ObjectClass", "kind", "(Z)Lcom/example/refbound/refbound/catalog/ObjectKind;"⟩ : MethodName) prog_33_method_7_code 2 (some (.object "com/example/refbound/refbound/catalog/ObjectKind")) :: ws) ({ frames := 0, cells := 0, slots := 0, locals := 0 } : Room)) (fun a U => a = #[(.ref r0), (.int (1 : Int32))] ∧ Z.Warmed39 U.vm ∧ U.heap = h0) (fun _ _ _ _ _ => True) (fun _ U o U' => ∃ v L, o = .returned v ∧ Q1_1 Z r0 w0 h0 n0 v U'.heap L ∧ FrameEnd U o U' L ({ frames := 0, cells := 0, slots := 0, locals := 0 } : Room).cells ({ frames := 0, cells := 0, slots := 0, locals := 0 } : Room).slots) := by
  refine MetFree.of_bodySF (plainFor_of_name pn_1) hisR ?_
  intro p e s m args below meth c s₁ Bd hml0 hP hK
  obtain ⟨rfl, hZ, hh⟩ := hP
  have hx := Bd.exec
  have hby := Bd.bytes
  have hml : c.maxLocals = 2 := hml0
  have hown : s.vm.findClass "com/example/refbound/refbound/dialect/tsql/ObjectClass" = some m.cls := findClass_of_methodNamed Bd.named
  have hnm := (name_of_methodNamed Bd.named Bd.method).1
  have X0 : Stand p l e ({ frames := 0, cells := 0, slots := 0, locals := 0 } : Room) s m #[(.ref r0), (.int (1 : Int32))] below meth c s₁ [] 0 0 := Stand.of_body Bd
  have e0 : s₁.heap = h0 := by rw [← hh, Bd.state]; rfl
  have N0 := Fr.nil n0
  refine own_go (B := s₁.setTop (mkF m 0 (LS_RI r0 (1 : Int32)) [])) (fun t k => castTop (ef_1_1 m r0) k) ?_
  refine own_go (B := s₁.setTop (mkF m 5 (LS_RI r0 (1 : Int32)) [(.ref r0)])) (fun t k => ?_) ?_
  · show Steps p.tables e below (s₁.setTop (mkF m 0 (LS_RI r0 (1 : Int32)) [])) _
    refine XS.iloadN X0.here hx rfl (hb hby d1_0) rfl ?_
    show Steps p.tables e below (s₁.setTop (mkF m 1 (LS_RI r0 (1 : Int32)) [(.int (1 : Int32))])) _
    refine XS.ifNo X0.here hx rfl (hb hby d1_1) rfl ((if0 _ _).trans (feq (by decide : ¬ ((1 : Int32) = (0 : Int32)))).1) ?_
    show Steps p.tables e below (s₁.setTop (mkF m 4 (LS_RI r0 (1 : Int32)) [])) _
    refine XS.aloadN X0.here hx rfl (hb hby d1_4) rfl rfl ?_
    exact k
  obtain ⟨T1, X1, e1, st1⟩ := getF X0 hx hZ hown (host := "") (Or.inl (hw _ (List.mem_of_getElem? (i := 12) rfl))) Via.refl e0 F0 (g := (mkF m 5 (LS_RI r0 (1 : Int32)) [(.ref r0)])) rfl rfl (hb hby d1_5)
  refine own_go (B := T1.setTop (mkF m 8 (LS_RI r0 (1 : Int32)) [(.ref w0)])) (fun t k => st1 _ k) ?_
  refine own_go (B := T1.setTop (mkF m 15 (LS_RI r0 (1 : Int32)) [(.ref w0)])) (fun t k => ?_) ?_
  · show Steps p.tables e below (T1.setTop (mkF m 8 (LS_RI r0 (1 : Int32)) [(.ref w0)])) _
    refine XS.goto X1.here hx rfl (pc0 := 8) (pc' := 15) rfl (hb hby d1_8) (by decide) (by decide) ?_
    exact k
  obtain ⟨fs, hr, hrun, hended, hW, hsame⟩ := X1.leave (v := some (.ref w0)) (fun h => by rw [Bd.returns] at h; cases h)
  refine ⟨_, _, ?_, hrun, hended, _, _, rfl, ?_, ⟨_, rfl⟩, hW, hsame.mono (by decide) (by decide)⟩
  · show Steps p.tables e below (T1.setTop (mkF m 15 (LS_RI r0 (1 : Int32)) [(.ref w0)])) _
    exact retOut X1 hx Bd.returns rfl (Or.inr (Or.inr (Or.inr (Or.inr ⟨rfl, rfl, rfl⟩)))) (hb hby d1_15) hr
  · show Q1_1 Z r0 w0 h0 n0 _ T1.heap _
    rw [e1]
    exact ⟨rfl, N0, rfl⟩
theorem ef_0 (m : MethodId) (p0 : Int32) (p1 : Int32) : entryFrame m #[(.int p0), (.int p1)] maxLocals = mkF m 0 #[.val (.int p0), .val (.int p1), .unset, .unset, .unset, .unset] [] := by first | (simp [entryFrame, mkF, argsToLocals, Value.category, maxLocals]; done) | rfl
theorem pn_0 : plainName "com/example/refbound/refbound/dialect/tsql/ObjectClassKindPinLaw" = true := by first | (simp [plainName, overriddenIn]; done) | decide +kernel
abbrev LS_IIuuuu (a0 : Int32) (a1 : Int32) : Array Slot := #[.val (.int a0), .val (.int a1), .unset, .unset, .unset, .unset]
abbrev LS_IIIuuu (a0 : Int32) (a1 : Int32) (a2 : Int32) : Array Slot := #[.val (.int a0), .val (.int a1), .val (.int a2), .unset, .unset, .unset]
abbrev LS_IIIIuu (a0 : Int32) (a1 : Int32) (a2 : Int32) (a3 : Int32) : Array Slot := #[.val (.int a0), .val (.int a1), .val (.int a2), .val (.int a3), .unset, .unset]
abbrev LS_IIIIRu (a0 : Int32) (a1 : Int32) (a2 : Int32) (a3 : Int32) (a4 : Addr) : Array Slot := #[.val (.int a0), .val (.int a1), .val (.int a2), .val (.int a3), .val (.ref a4), .unset]
abbrev LS_IIIIRR (a0 : Int32) (a1 : Int32) (a2 : Int32) (a3 : Int32) (a4 : Addr) (a5 : Addr) : Array Slot := #[.val (.int a0), .val (.int a1), .val (.int a2), .val (.int a3), .val (.ref a4), .val (.ref a5)]
theorem pd__Z_Lcom_example_refbound_refbound_catalog_ObjectKind_ : parseMethodDescriptor "(Z)Lcom/example/refbound/refbound/catalog/ObjectKind;" = some ⟨[.boolean], some (.object "com/example/refbound/refbound/catalog/ObjectKind")⟩ := by decide +kernel
def Q0 (Z : State) (p0 : Int32) (p1 : Int32) (w_ObjectClass_PROCEDURE : Addr) (w_ObjectKind_CLR_PROCEDURE : Addr) (w_ObjectClass_TRIGGER : Addr) (w_ObjectKind_CLR_TRIGGER : Addr) (w_ObjectKind_TRIGGER : Addr) (w_ObjectClass_TABLE : Addr) (w_ObjectKind_TABLE : Addr) (w_ObjectClass_FUNCTION : Addr) (w_ObjectKind_CLR_FUNCTION : Addr) (w_ObjectKind_PROCEDURE : Addr) (w_ObjectClass_TYPE : Addr) (w_ObjectKind_TYPE : Addr) (w_ObjectClass_VIEW : Addr) (w_ObjectKind_VIEW : Addr) (w_ObjectKind_FUNCTION : Addr) (h0 : Heap) (n0 : Nat) (v : Option Value) (h : Heap) (L : List Loc) : Prop := v = some (.int (1 : Int32)) ∧ Fr n0 L
set_option maxRecDepth 65536 in
set_option maxHeartbeats 40000000 in
theorem rm0 (l : Launch) (Z : State) (a0 : Array Value) (hw : ∀ d ∈ tables_1, d.before a0 Z = true) (ws : List Jvm.Cond) (p0 : Int32) (p1 : Int32) (w_ObjectClass_PROCEDURE : Addr) (w_ObjectKind_CLR_PROCEDURE : Addr) (w_ObjectClass_TRIGGER : Addr) (w_ObjectKind_CLR_TRIGGER : Addr) (w_ObjectKind_TRIGGER : Addr) (w_ObjectClass_TABLE : Addr) (w_ObjectKind_TABLE : Addr) (w_ObjectClass_FUNCTION : Addr) (w_ObjectKind_CLR_FUNCTION : Addr) (w_ObjectKind_PROCEDURE : Addr) (w_ObjectClass_TYPE : Addr) (w_ObjectKind_TYPE : Addr) (w_ObjectClass_VIEW : Addr) (w_ObjectKind_VIEW : Addr) (w_ObjectKind_FUNCTION : Addr) (h0 : Heap) (n0 : Nat) (Z0 : n0 ≤ h0.size) (S_ObjectClass_PROCEDURE : Sta Z h0 "com/example/refbound/refbound/dialect/tsql/ObjectClass" "PROCEDURE" "Lcom/example/refbound/refbound/dialect/tsql/ObjectClass;" (.ref w_ObjectClass_PROCEDURE)) (E_ObjectClass_PROCEDURE : Exa Z h0 w_ObjectClass_PROCEDURE "com/example/refbound/refbound/dialect/tsql/ObjectClass") (S_ObjectKind_CLR_PROCEDURE : Sta Z h0 "com/example/refbound/refbound/catalog/ObjectKind" "CLR_PROCEDURE" "Lcom/example/refbound/refbound/catalog/ObjectKind;" (.ref w_ObjectKind_CLR_PROCEDURE)) (E_ObjectKind_CLR_PROCEDURE : Exa Z h0 w_ObjectKind_CLR_PROCEDURE "com/example/refbound/refbound/catalog/ObjectKind") (S_ObjectClass_TRIGGER : Sta Z h0 "com/example/refbound/refbound/dialect/tsql/ObjectClass" "TRIGGER" "Lcom/example/refbound/refbound/dialect/tsql/ObjectClass;" (.ref w_ObjectClass_TRIGGER)) (E_ObjectClass_TRIGGER : Exa Z h0 w_ObjectClass_TRIGGER "com/example/refbound/refbound/dialect/tsql/ObjectClass") (S_ObjectKind_CLR_TRIGGER : Sta Z h0 "com/example/refbound/refbound/catalog/ObjectKind" "CLR_TRIGGER" "Lcom/example/refbound/refbound/catalog/ObjectKind;" (.ref w_ObjectKind_CLR_TRIGGER)) (E_ObjectKind_CLR_TRIGGER : Exa Z h0 w_ObjectKind_CLR_TRIGGER "com/example/refbound/refbound/catalog/ObjectKind") (S_ObjectKind_TRIGGER : Sta Z h0 "com/example/refbound/refbound/catalog/ObjectKind" "TRIGGER" "Lcom/example/refbound/refbound/catalog/ObjectKind;" (.ref w_ObjectKind_TRIGGER)) (E_ObjectKind_TRIGGER : Exa Z h0 w_ObjectKind_TRIGGER "com/example/refbound/refbound/catalog/ObjectKind") (S_ObjectClass_TABLE : Sta Z h0 "com/example/refbound/refbound/dialect/tsql/ObjectClass" "TABLE" "Lcom/example/refbound/refbound/dialect/tsql/ObjectClass;" (.ref w_ObjectClass_TABLE)) (E_ObjectClass_TABLE : Exa Z h0 w_ObjectClass_TABLE "com/example/refbound/refbound/dialect/tsql/ObjectClass") (S_ObjectKind_TABLE : Sta Z h0 "com/example/refbound/refbound/catalog/ObjectKind" "TABLE" "Lcom/example/refbound/refbound/catalog/ObjectKind;" (.ref w_ObjectKind_TABLE)) (E_ObjectKind_TABLE : Exa Z h0 w_ObjectKind_TABLE "com/example/refbound/refbound/catalog/ObjectKind") (S_ObjectClass_FUNCTION : Sta Z h0 "com/example/refbound/refbound/dialect/tsql/ObjectClass" "FUNCTION" "Lcom/example/refbound/refbound/dialect/tsql/ObjectClass;" (.ref w_ObjectClass_FUNCTION)) (E_ObjectClass_FUNCTION : Exa Z h0 w_ObjectClass_FUNCTION "com/example/refbound/refbound/dialect/tsql/ObjectClass") (S_ObjectKind_CLR_FUNCTION : Sta Z h0 "com/example/refbound/refbound/catalog/ObjectKind" "CLR_FUNCTION" "Lcom/example/refbound/refbound/catalog/ObjectKind;" (.ref w_ObjectKind_CLR_FUNCTION)) (E_ObjectKind_CLR_FUNCTION : Exa Z h0 w_ObjectKind_CLR_FUNCTION "com/example/refbound/refbound/catalog/ObjectKind") (S_ObjectKind_PROCEDURE : Sta Z h0 "com/example/refbound/refbound/catalog/ObjectKind" "PROCEDURE" "Lcom/example/refbound/refbound/catalog/ObjectKind;" (.ref w_ObjectKind_PROCEDURE)) (E_ObjectKind_PROCEDURE : Exa Z h0 w_ObjectKind_PROCEDURE "com/example/refbound/refbound/catalog/ObjectKind") (S_ObjectClass_TYPE : Sta Z h0 "com/example/refbound/refbound/dialect/tsql/ObjectClass" "TYPE" "Lcom/example/refbound/refbound/dialect/tsql/ObjectClass;" (.ref w_ObjectClass_TYPE)) (E_ObjectClass_TYPE : Exa Z h0 w_ObjectClass_TYPE "com/example/refbound/refbound/dialect/tsql/ObjectClass") (S_ObjectKind_TYPE : Sta Z h0 "com/example/refbound/refbound/catalog/ObjectKind" "TYPE" "Lcom/example/refbound/refbound/catalog/ObjectKind;" (.ref w_ObjectKind_TYPE)) (E_ObjectKind_TYPE : Exa Z h0 w_ObjectKind_TYPE "com/example/refbound/refbound/catalog/ObjectKind") (S_ObjectClass_VIEW : Sta Z h0 "com/example/refbound/refbound/dialect/tsql/ObjectClass" "VIEW" "Lcom/example/refbound/refbound/dialect/tsql/ObjectClass;" (.ref w_ObjectClass_VIEW)) (E_ObjectClass_VIEW : Exa Z h0 w_ObjectClass_VIEW "com/example/refbound/refbound/dialect/tsql/ObjectClass") (S_ObjectKind_VIEW : Sta Z h0 "com/example/refbound/refbound/catalog/ObjectKind" "VIEW" "Lcom/example/refbound/refbound/catalog/ObjectKind;" (.ref w_ObjectKind_VIEW)) (E_ObjectKind_VIEW : Exa Z h0 w_ObjectKind_VIEW "com/example/refbound/refbound/catalog/ObjectKind") (S_ObjectKind_FUNCTION : Sta Z h0 "com/example/refbound/refbound/catalog/ObjectKind" "FUNCTION" "Lcom/example/refbound/refbound/catalog/ObjectKind;" (.ref w_ObjectKind_FUNCTION)) (E_ObjectKind_FUNCTION : Exa Z h0 w_ObjectKind_FUNCTION "com/example/refbound/refbound/catalog/ObjectKind") (F_ObjectClass_PROCEDURE_external : Fld Z h0 w_ObjectClass_PROCEDURE "com/example/refbound/refbound/dialect/tsql/ObjectClass" "external" "Lcom/example/refbound/refbound/catalog/ObjectKind;" (.ref w_ObjectKind_CLR_PROCEDURE)) (F_ObjectClass_TRIGGER_external : Fld Z h0 w_ObjectClass_TRIGGER "com/example/refbound/refbound/dialect/tsql/ObjectClass" "external" "Lcom/example/refbound/refbound/catalog/ObjectKind;" (.ref w_ObjectKind_CLR_TRIGGER)) (F_ObjectClass_TRIGGER_written : Fld Z h0 w_ObjectClass_TRIGGER "com/example/refbound/refbound/dialect/tsql/ObjectClass" "written" "Lcom/example/refbound/refbound/catalog/ObjectKind;" (.ref w_ObjectKind_TRIGGER)) (F_ObjectClass_TABLE_written : Fld Z h0 w_ObjectClass_TABLE "com/example/refbound/refbound/dialect/tsql/ObjectClass" "written" "Lcom/example/refbound/refbound/catalog/ObjectKind;" (.ref w_ObjectKind_TABLE)) (F_ObjectClass_FUNCTION_external : Fld Z h0 w_ObjectClass_FUNCTION "com/example/refbound/refbound/dialect/tsql/ObjectClass" "external" "Lcom/example/refbound/refbound/catalog/ObjectKind;" (.ref w_ObjectKind_CLR_FUNCTION)) (F_ObjectClass_PROCEDURE_written : Fld Z h0 w_ObjectClass_PROCEDURE "com/example/refbound/refbound/dialect/tsql/ObjectClass" "written" "Lcom/example/refbound/refbound/catalog/ObjectKind;" (.ref w_ObjectKind_PROCEDURE)) (F_ObjectClass_TYPE_written : Fld Z h0 w_ObjectClass_TYPE "com/example/refbound/refbound/dialect/tsql/ObjectClass" "written" "Lcom/example/refbound/refbound/catalog/ObjectKind;" (.ref w_ObjectKind_TYPE)) (F_ObjectClass_VIEW_external : Fld Z h0 w_ObjectClass_VIEW "com/example/refbound/refbound/dialect/tsql/ObjectClass" "external" "Lcom/example/refbound/refbound/catalog/ObjectKind;" (.ref w_ObjectKind_VIEW)) (F_ObjectClass_VIEW_written : Fld Z h0 w_ObjectClass_VIEW "com/example/refbound/refbound/dialect/tsql/ObjectClass" "written" "Lcom/example/refbound/refbound/catalog/ObjectKind;" (.ref w_ObjectKind_VIEW)) (F_ObjectClass_FUNCTION_written : Fld Z h0 w_ObjectClass_FUNCTION "com/example/refbound/refbound/dialect/tsql/ObjectClass" "written" "Lcom/example/refbound/refbound/catalog/ObjectKind;" (.ref w_ObjectKind_FUNCTION)) (F_ObjectClass_TABLE_external : Fld Z h0 w_ObjectClass_TABLE "com/example/refbound/refbound/dialect/tsql/ObjectClass" "external" "Lcom/example/refbound/refbound/catalog/ObjectKind;" (.ref w_ObjectKind_TABLE)) (F_ObjectClass_TYPE_external : Fld Z h0 w_ObjectClass_TYPE "com/example/refbound/refbound/dialect/tsql/ObjectClass" "external" "Lcom/example/refbound/refbound/catalog/ObjectKind;" (.ref w_ObjectKind_TYPE)) :
    MetFree l x (head1 (Jvm.Cond.code x code maxLocals ret :: ws) room_1) (fun a U => a = #[(.int p0), (.int p1)] ∧ Z.Warmed39 U.vm ∧ U.heap = h0) (fun _ _ _ _ _ => True) (fun _ U o U' => ∃ v L, o = .returned v ∧ Q0 Z p0 p1 w_ObjectClass_PROCEDURE w_ObjectKind_CLR_PROCEDURE w_ObjectClass_TRIGGER w_ObjectKind_CLR_TRIGGER w_ObjectKind_TRIGGER w_ObjectClass_TABLE w_ObjectKind_TABLE w_ObjectClass_FUNCTION w_ObjectKind_CLR_FUNCTION w_ObjectKind_PROCEDURE w_ObjectClass_TYPE w_ObjectKind_TYPE w_ObjectClass_VIEW w_ObjectKind_VIEW w_ObjectKind_FUNCTION h0 n0 v U'.heap L ∧ FrameEnd U o U' L room_1.cells room_1.slots) := by
  refine MetFree.of_bodySF (plainFor_of_name pn_0) hisR ?_
  intro p e s m args below meth c s₁ Bd hml0 hP hK
  obtain ⟨rfl, hZ, hh⟩ := hP
  have hx := Bd.exec
  have hby := Bd.bytes
  have hml : c.maxLocals = 6 := hml0
  have hown : s.vm.findClass "com/example/refbound/refbound/dialect/tsql/ObjectClassKindPinLaw" = some m.cls := findClass_of_methodNamed Bd.named
  have hnm := (name_of_methodNamed Bd.named Bd.method).1
  have X0 : Stand p l e room_1 s m #[(.int p0), (.int p1)] below meth c s₁ [] 0 0 := Stand.of_body Bd
  have e0 : s₁.heap = h0 := by rw [← hh, Bd.state]; rfl
  have N0 := Fr.nil n0
  refine own_go (B := s₁.setTop (mkF m 0 (LS_IIuuuu p0 p1) [])) (fun t k => castTop (ef_0 m p0 p1) k) ?_
  refine own_go (B := s₁.setTop (mkF m 7 (LS_IIuuuu p0 p1) [(.int ((p0 &&& (2147483647 : Int32)) % (6 : Int32)))])) (fun t k => ?_) ?_
  · show Steps p.tables e below (s₁.setTop (mkF m 0 (LS_IIuuuu p0 p1) [])) _
    refine XS.iloadN X0.here hx rfl (hb hby at_0) rfl ?_
    show Steps p.tables e below (s₁.setTop (mkF m 1 (LS_IIuuuu p0 p1) [(.int p0)])) _
    refine X0.ldcInt hx hown (mvT hZ (hw _ (List.mem_of_getElem? (i := 0) rfl))) (g := (mkF m 1 (LS_IIuuuu p0 p1) [(.int p0)])) rfl (hb hby at_1) _ ?_
    show Steps p.tables e below (s₁.setTop (mkF m 3 (LS_IIuuuu p0 p1) [(.int (2147483647 : Int32)), (.int p0)])) _
    refine XS.iand X0.here hx rfl (hb hby at_3) rfl ?_
    show Steps p.tables e below (s₁.setTop (mkF m 4 (LS_IIuuuu p0 p1) [(.int (p0 &&& (2147483647 : Int32)))])) _
    refine XS.bipush X0.here hx rfl (hb hby at_4) ?_
    show Steps p.tables e below (s₁.setTop (mkF m 6 (LS_IIuuuu p0 p1) [(.int (6 : Int32)), (.int (p0 &&& (2147483647 : Int32)))])) _
    refine Jvm.RoadKit.iremM X0 hx rfl (hb hby at_6) rfl (by decide) ?_
    exact k
  rcases own_mod6 p0 with hk1 | hk1 | hk1 | hk1 | hk1 | hk1
  · rw [hk1]
    refine own_go (B := s₁.setTop (mkF m 11 (LS_IIIuuu p0 p1 (0 : Int32)) [(.int (p1 &&& (1 : Int32)))])) (fun t k => ?_) ?_
    · show Steps p.tables e below (s₁.setTop (mkF m 7 (LS_IIuuuu p0 p1) [(.int (0 : Int32))])) _
      refine XS.istoreN X0.here hx rfl (hb hby at_7) rfl (l' := (LS_IIIuuu p0 p1 (0 : Int32))) rfl ?_
      show Steps p.tables e below (s₁.setTop (mkF m 8 (LS_IIIuuu p0 p1 (0 : Int32)) [])) _
      refine XS.iloadN X0.here hx rfl (hb hby at_8) rfl ?_
      show Steps p.tables e below (s₁.setTop (mkF m 9 (LS_IIIuuu p0 p1 (0 : Int32)) [(.int p1)])) _
      refine XS.iconst X0.here hx rfl (hb hby at_9) ?_
      show Steps p.tables e below (s₁.setTop (mkF m 10 (LS_IIIuuu p0 p1 (0 : Int32)) [(.int (1 : Int32)), (.int p1)])) _
      refine XS.iand X0.here hx rfl (hb hby at_10) rfl ?_
      exact k
    by_cases hc11_2 : (p1 &&& (1 : Int32)) = (0 : Int32)
    · refine own_go (B := s₁.setTop (mkF m 24 (LS_IIIIuu p0 p1 (0 : Int32) (0 : Int32)) [])) (fun t k => ?_) ?_
      · show Steps p.tables e below (s₁.setTop (mkF m 11 (LS_IIIuuu p0 p1 (0 : Int32)) [(.int (p1 &&& (1 : Int32)))])) _
        refine XS.ifYes X0.here hx rfl (pc0 := 11) (pc' := 18) rfl (hb hby at_11) rfl ((if0 _ _).trans (teq hc11_2).1) (by decide) (by decide) ?_
        show Steps p.tables e below (s₁.setTop (mkF m 18 (LS_IIIuuu p0 p1 (0 : Int32)) [])) _
        refine XS.iconst X0.here hx rfl (hb hby at_18) ?_
        show Steps p.tables e below (s₁.setTop (mkF m 19 (LS_IIIuuu p0 p1 (0 : Int32)) [(.int (0 : Int32))])) _
        refine XS.istoreN X0.here hx rfl (hb hby at_19) rfl (l' := (LS_IIIIuu p0 p1 (0 : Int32) (0 : Int32))) rfl ?_
        show Steps p.tables e below (s₁.setTop (mkF m 20 (LS_IIIIuu p0 p1 (0 : Int32) (0 : Int32)) [])) _
        refine XS.iloadN X0.here hx rfl (hb hby at_20) rfl ?_
        show Steps p.tables e below (s₁.setTop (mkF m 21 (LS_IIIIuu p0 p1 (0 : Int32) (0 : Int32)) [(.int (0 : Int32))])) _
        refine XS.ifNo X0.here hx rfl (hb hby at_21) rfl ((if0 _ _).trans (teq (by decide : (0 : Int32) = (0 : Int32))).2) ?_
        exact k
      obtain ⟨T3, X3, e3, st3⟩ := getS2 X0 hx hZ hown (host := "") (Or.inl (hw _ (List.mem_of_getElem? (i := 1) rfl))) Via.refl e0 S_ObjectClass_PROCEDURE (g := (mkF m 24 (LS_IIIIuu p0 p1 (0 : Int32) (0 : Int32)) [])) rfl (hb hby at_24)
      refine own_go (B := T3.setTop (mkF m 27 (LS_IIIIuu p0 p1 (0 : Int32) (0 : Int32)) [(.ref w_ObjectClass_PROCEDURE)])) (fun t k => st3 _ k) ?_
      refine own_go (B := T3.setTop (mkF m 39 (LS_IIIIRu p0 p1 (0 : Int32) (0 : Int32) w_ObjectClass_PROCEDURE) [])) (fun t k => ?_) ?_
      · show Steps p.tables e below (T3.setTop (mkF m 27 (LS_IIIIuu p0 p1 (0 : Int32) (0 : Int32)) [(.ref w_ObjectClass_PROCEDURE)])) _
        refine XS.astore X3.here hx rfl (hb hby at_27) rfl rfl (l' := (LS_IIIIRu p0 p1 (0 : Int32) (0 : Int32) w_ObjectClass_PROCEDURE)) rfl ?_
        show Steps p.tables e below (T3.setTop (mkF m 29 (LS_IIIIRu p0 p1 (0 : Int32) (0 : Int32) w_ObjectClass_PROCEDURE) [])) _
        refine XS.iloadN X3.here hx rfl (hb hby at_29) rfl ?_
        show Steps p.tables e below (T3.setTop (mkF m 30 (LS_IIIIRu p0 p1 (0 : Int32) (0 : Int32) w_ObjectClass_PROCEDURE) [(.int (0 : Int32))])) _
        refine XS.ifYes X3.here hx rfl (pc0 := 30) (pc' := 39) rfl (hb hby at_30) rfl ((if0 _ _).trans (teq (by decide : (0 : Int32) = (0 : Int32))).1) (by decide) (by decide) ?_
        exact k
      obtain ⟨T4, X4, e4, st4⟩ := getS2 X3 hx hZ hown (host := "") (Or.inl (hw _ (List.mem_of_getElem? (i := 30) rfl))) Via.refl e3 S_ObjectKind_PROCEDURE (g := (mkF m 39 (LS_IIIIRu p0 p1 (0 : Int32) (0 : Int32) w_ObjectClass_PROCEDURE) [])) rfl (hb hby at_39)
      refine own_go (B := T4.setTop (mkF m 42 (LS_IIIIRu p0 p1 (0 : Int32) (0 : Int32) w_ObjectClass_PROCEDURE) [(.ref w_ObjectKind_PROCEDURE)])) (fun t k => st4 _ k) ?_
      refine own_go (B := T4.setTop (mkF m 152 (LS_IIIIRR p0 p1 (0 : Int32) (0 : Int32) w_ObjectClass_PROCEDURE w_ObjectKind_PROCEDURE) [(.int (0 : Int32)), (.ref w_ObjectClass_PROCEDURE)])) (fun t k => ?_) ?_
      · show Steps p.tables e below (T4.setTop (mkF m 42 (LS_IIIIRu p0 p1 (0 : Int32) (0 : Int32) w_ObjectClass_PROCEDURE) [(.ref w_ObjectKind_PROCEDURE)])) _
        refine XS.astore X4.here hx rfl (hb hby at_42) rfl rfl (l' := (LS_IIIIRR p0 p1 (0 : Int32) (0 : Int32) w_ObjectClass_PROCEDURE w_ObjectKind_PROCEDURE)) rfl ?_
        show Steps p.tables e below (T4.setTop (mkF m 44 (LS_IIIIRR p0 p1 (0 : Int32) (0 : Int32) w_ObjectClass_PROCEDURE w_ObjectKind_PROCEDURE) [])) _
        refine XS.goto X4.here hx rfl (pc0 := 44) (pc' := 149) rfl (hb hby at_44) (by decide) (by decide) ?_
        show Steps p.tables e below (T4.setTop (mkF m 149 (LS_IIIIRR p0 p1 (0 : Int32) (0 : Int32) w_ObjectClass_PROCEDURE w_ObjectKind_PROCEDURE) [])) _
        refine XS.aload X4.here hx rfl (hb hby at_149) rfl rfl ?_
        show Steps p.tables e below (T4.setTop (mkF m 151 (LS_IIIIRR p0 p1 (0 : Int32) (0 : Int32) w_ObjectClass_PROCEDURE w_ObjectKind_PROCEDURE) [(.ref w_ObjectClass_PROCEDURE)])) _
        refine XS.iloadN X4.here hx rfl (hb hby at_151) rfl ?_
        exact k
      obtain ⟨cq5, kq5, q5a, q5b, q5c⟩ := isOf hZ e4 E_ObjectClass_PROCEDURE
      obtain ⟨_, _, ⟨T5, L5, k5, n5⟩, -, X5, ⟨Lc5, hQ5, l5, y5, z5⟩, st5⟩ := X4.virtualBack hx (y := (⟨"com/example/refbound/refbound/dialect/tsql/ObjectClass", "kind", "(Z)Lcom/example/refbound/refbound/catalog/ObjectKind;"⟩ : MethodName)) (z := (⟨"com/example/refbound/refbound/dialect/tsql/ObjectClass", "kind", "(Z)Lcom/example/refbound/refbound/catalog/ObjectKind;"⟩ : MethodName)) hown (mvT hZ (hw _ (List.mem_of_getElem? (i := 7) rfl))) (mvT hZ (hw _ (List.mem_of_getElem? (i := 8) rfl))) (notFace_of_selects (args := #[]) (mvT hZ (hw _ (List.mem_of_getElem? (i := 10) rfl)))) (mvT hZ (hw _ (List.mem_of_getElem? (i := 10) rfl))) (mvT hZ (hw _ (List.mem_of_getElem? (i := 9) rfl))) (by decide) (backOf (W := 0) (rm1_0 l Z a0 hw [] w_ObjectClass_PROCEDURE w_ObjectKind_PROCEDURE h0 n0 Z0 F_ObjectClass_PROCEDURE_written) hZ (hw _ (List.mem_of_getElem? (i := 11) rfl)) (hw _ (List.mem_of_getElem? (i := 2) rfl)) (by decide) (by decide)) q5a q5c (g := (mkF m 152 (LS_IIIIRR p0 p1 (0 : Int32) (0 : Int32) w_ObjectClass_PROCEDURE w_ObjectKind_PROCEDURE) [(.int (0 : Int32)), (.ref w_ObjectClass_PROCEDURE)])) rfl (by rw [hml]; rfl) (Steps.refl _) (argsL := [(.int (0 : Int32))]) (rest := []) (lenOf pd__Z_Lcom_example_refbound_refbound_catalog_ObjectKind_ rfl) rfl (by show 2 * 0 + _ ≤ _; exact Nat.le_of_eq rfl) (hb hby at_152) (fun _ _ => ⟨rfl, e4, (by decide : 0 + 0 ≤ _), (by decide : 0 + 0 ≤ _)⟩)
      dsimp only [Pt.U, Pt.locs, Pt.cells, Pt.slots] at X5 l5 y5 z5 st5 hQ5
      subst l5 y5 z5
      obtain ⟨rfl, N5q, e5⟩ := hQ5
      have N5 := Fr.app N0 N5q
      refine own_go (B := T5.setTop (mkF m 155 (LS_IIIIRR p0 p1 (0 : Int32) (0 : Int32) w_ObjectClass_PROCEDURE w_ObjectKind_PROCEDURE) [(.ref w_ObjectKind_PROCEDURE)])) (fun t k => st5.trans k) ?_
      refine own_go (B := T5.setTop (mkF m 165 (LS_IIIIRR p0 p1 (0 : Int32) (0 : Int32) w_ObjectClass_PROCEDURE w_ObjectKind_PROCEDURE) [(.int (1 : Int32))])) (fun t k => ?_) ?_
      · show Steps p.tables e below (T5.setTop (mkF m 155 (LS_IIIIRR p0 p1 (0 : Int32) (0 : Int32) w_ObjectClass_PROCEDURE w_ObjectKind_PROCEDURE) [(.ref w_ObjectKind_PROCEDURE)])) _
        refine XS.aload X5.here hx rfl (hb hby at_155) rfl rfl ?_
        show Steps p.tables e below (T5.setTop (mkF m 157 (LS_IIIIRR p0 p1 (0 : Int32) (0 : Int32) w_ObjectClass_PROCEDURE w_ObjectKind_PROCEDURE) [(.ref w_ObjectKind_PROCEDURE), (.ref w_ObjectKind_PROCEDURE)])) _
        refine Jvm.RoadKit.acmp (g := (mkF m 157 (LS_IIIIRR p0 p1 (0 : Int32) (0 : Int32) w_ObjectClass_PROCEDURE w_ObjectKind_PROCEDURE) [(.ref w_ObjectKind_PROCEDURE), (.ref w_ObjectKind_PROCEDURE)])) X5 hx rfl rfl rfl (pc0 := 157) (pc' := 160) (same := true) rfl (hb hby at_157) rfl (decide_eq_true rfl) (by decide) (by decide) ?_
        show Steps p.tables e below (T5.setTop (mkF m 160 (LS_IIIIRR p0 p1 (0 : Int32) (0 : Int32) w_ObjectClass_PROCEDURE w_ObjectKind_PROCEDURE) [])) _
        refine XS.iconst X5.here hx rfl (hb hby at_160) ?_
        show Steps p.tables e below (T5.setTop (mkF m 161 (LS_IIIIRR p0 p1 (0 : Int32) (0 : Int32) w_ObjectClass_PROCEDURE w_ObjectKind_PROCEDURE) [(.int (1 : Int32))])) _
        refine XS.goto X5.here hx rfl (pc0 := 161) (pc' := 165) rfl (hb hby at_161) (by decide) (by decide) ?_
        exact k
      obtain ⟨fs, hr, hrun, hended, hW, hsame⟩ := X5.leave (v := some (.int (1 : Int32))) (fun h => by rw [Bd.returns] at h; cases h)
      refine ⟨_, _, ?_, hrun, hended, _, _, rfl, ?_, ⟨_, rfl⟩, hW, hsame.mono (by decide) (by decide)⟩
      · show Steps p.tables e below (T5.setTop (mkF m 165 (LS_IIIIRR p0 p1 (0 : Int32) (0 : Int32) w_ObjectClass_PROCEDURE w_ObjectKind_PROCEDURE) [(.int (1 : Int32))])) _
        exact retN X5 hx (t := .boolean) Bd.returns (by simp) (hb hby at_165) hr
      · show Q0 Z p0 p1 w_ObjectClass_PROCEDURE w_ObjectKind_CLR_PROCEDURE w_ObjectClass_TRIGGER w_ObjectKind_CLR_TRIGGER w_ObjectKind_TRIGGER w_ObjectClass_TABLE w_ObjectKind_TABLE w_ObjectClass_FUNCTION w_ObjectKind_CLR_FUNCTION w_ObjectKind_PROCEDURE w_ObjectClass_TYPE w_ObjectKind_TYPE w_ObjectClass_VIEW w_ObjectKind_VIEW w_ObjectKind_FUNCTION h0 n0 _ T5.heap _
        rw [e5]
        exact ⟨rfl, N5⟩
    · refine own_go (B := s₁.setTop (mkF m 24 (LS_IIIIuu p0 p1 (0 : Int32) (1 : Int32)) [])) (fun t k => ?_) ?_
      · show Steps p.tables e below (s₁.setTop (mkF m 11 (LS_IIIuuu p0 p1 (0 : Int32)) [(.int (p1 &&& (1 : Int32)))])) _
        refine XS.ifNo X0.here hx rfl (hb hby at_11) rfl ((if0 _ _).trans (feq hc11_2).1) ?_
        show Steps p.tables e below (s₁.setTop (mkF m 14 (LS_IIIuuu p0 p1 (0 : Int32)) [])) _
        refine XS.iconst X0.here hx rfl (hb hby at_14) ?_
        show Steps p.tables e below (s₁.setTop (mkF m 15 (LS_IIIuuu p0 p1 (0 : Int32)) [(.int (1 : Int32))])) _
        refine XS.goto X0.here hx rfl (pc0 := 15) (pc' := 19) rfl (hb hby at_15) (by decide) (by decide) ?_
        show Steps p.tables e below (s₁.setTop (mkF m 19 (LS_IIIuuu p0 p1 (0 : Int32)) [(.int (1 : Int32))])) _
        refine XS.istoreN X0.here hx rfl (hb hby at_19) rfl (l' := (LS_IIIIuu p0 p1 (0 : Int32) (1 : Int32))) rfl ?_
        show Steps p.tables e below (s₁.setTop (mkF m 20 (LS_IIIIuu p0 p1 (0 : Int32) (1 : Int32)) [])) _
        refine XS.iloadN X0.here hx rfl (hb hby at_20) rfl ?_
        show Steps p.tables e below (s₁.setTop (mkF m 21 (LS_IIIIuu p0 p1 (0 : Int32) (1 : Int32)) [(.int (0 : Int32))])) _
        refine XS.ifNo X0.here hx rfl (hb hby at_21) rfl ((if0 _ _).trans (teq (by decide : (0 : Int32) = (0 : Int32))).2) ?_
        exact k
      obtain ⟨T6, X6, e6, st6⟩ := getS2 X0 hx hZ hown (host := "") (Or.inl (hw _ (List.mem_of_getElem? (i := 1) rfl))) Via.refl e0 S_ObjectClass_PROCEDURE (g := (mkF m 24 (LS_IIIIuu p0 p1 (0 : Int32) (1 : Int32)) [])) rfl (hb hby at_24)
      refine own_go (B := T6.setTop (mkF m 27 (LS_IIIIuu p0 p1 (0 : Int32) (1 : Int32)) [(.ref w_ObjectClass_PROCEDURE)])) (fun t k => st6 _ k) ?_
      refine own_go (B := T6.setTop (mkF m 33 (LS_IIIIRu p0 p1 (0 : Int32) (1 : Int32) w_ObjectClass_PROCEDURE) [])) (fun t k => ?_) ?_
      · show Steps p.tables e below (T6.setTop (mkF m 27 (LS_IIIIuu p0 p1 (0 : Int32) (1 : Int32)) [(.ref w_ObjectClass_PROCEDURE)])) _
        refine XS.astore X6.here hx rfl (hb hby at_27) rfl rfl (l' := (LS_IIIIRu p0 p1 (0 : Int32) (1 : Int32) w_ObjectClass_PROCEDURE)) rfl ?_
        show Steps p.tables e below (T6.setTop (mkF m 29 (LS_IIIIRu p0 p1 (0 : Int32) (1 : Int32) w_ObjectClass_PROCEDURE) [])) _
        refine XS.iloadN X6.here hx rfl (hb hby at_29) rfl ?_
        show Steps p.tables e below (T6.setTop (mkF m 30 (LS_IIIIRu p0 p1 (0 : Int32) (1 : Int32) w_ObjectClass_PROCEDURE) [(.int (1 : Int32))])) _
        refine XS.ifNo X6.here hx rfl (hb hby at_30) rfl ((if0 _ _).trans (feq (by decide : ¬ ((1 : Int32) = (0 : Int32)))).1) ?_
        exact k
      obtain ⟨T7, X7, e7, st7⟩ := getS2 X6 hx hZ hown (host := "") (Or.inl (hw _ (List.mem_of_getElem? (i := 4) rfl))) Via.refl e6 S_ObjectKind_CLR_PROCEDURE (g := (mkF m 33 (LS_IIIIRu p0 p1 (0 : Int32) (1 : Int32) w_ObjectClass_PROCEDURE) [])) rfl (hb hby at_33)
      refine own_go (B := T7.setTop (mkF m 36 (LS_IIIIRu p0 p1 (0 : Int32) (1 : Int32) w_ObjectClass_PROCEDURE) [(.ref w_ObjectKind_CLR_PROCEDURE)])) (fun t k => st7 _ k) ?_
      refine own_go (B := T7.setTop (mkF m 152 (LS_IIIIRR p0 p1 (0 : Int32) (1 : Int32) w_ObjectClass_PROCEDURE w_ObjectKind_CLR_PROCEDURE) [(.int (1 : Int32)), (.ref w_ObjectClass_PROCEDURE)])) (fun t k => ?_) ?_
      · show Steps p.tables e below (T7.setTop (mkF m 36 (LS_IIIIRu p0 p1 (0 : Int32) (1 : Int32) w_ObjectClass_PROCEDURE) [(.ref w_ObjectKind_CLR_PROCEDURE)])) _
        refine XS.goto X7.here hx rfl (pc0 := 36) (pc' := 42) rfl (hb hby at_36) (by decide) (by decide) ?_
        show Steps p.tables e below (T7.setTop (mkF m 42 (LS_IIIIRu p0 p1 (0 : Int32) (1 : Int32) w_ObjectClass_PROCEDURE) [(.ref w_ObjectKind_CLR_PROCEDURE)])) _
        refine XS.astore X7.here hx rfl (hb hby at_42) rfl rfl (l' := (LS_IIIIRR p0 p1 (0 : Int32) (1 : Int32) w_ObjectClass_PROCEDURE w_ObjectKind_CLR_PROCEDURE)) rfl ?_
        show Steps p.tables e below (T7.setTop (mkF m 44 (LS_IIIIRR p0 p1 (0 : Int32) (1 : Int32) w_ObjectClass_PROCEDURE w_ObjectKind_CLR_PROCEDURE) [])) _
        refine XS.goto X7.here hx rfl (pc0 := 44) (pc' := 149) rfl (hb hby at_44) (by decide) (by decide) ?_
        show Steps p.tables e below (T7.setTop (mkF m 149 (LS_IIIIRR p0 p1 (0 : Int32) (1 : Int32) w_ObjectClass_PROCEDURE w_ObjectKind_CLR_PROCEDURE) [])) _
        refine XS.aload X7.here hx rfl (hb hby at_149) rfl rfl ?_
        show Steps p.tables e below (T7.setTop (mkF m 151 (LS_IIIIRR p0 p1 (0 : Int32) (1 : Int32) w_ObjectClass_PROCEDURE w_ObjectKind_CLR_PROCEDURE) [(.ref w_ObjectClass_PROCEDURE)])) _
        refine XS.iloadN X7.here hx rfl (hb hby at_151) rfl ?_
        exact k
      obtain ⟨cq8, kq8, q8a, q8b, q8c⟩ := isOf hZ e7 E_ObjectClass_PROCEDURE
      obtain ⟨_, _, ⟨T8, L8, k8, n8⟩, -, X8, ⟨Lc8, hQ8, l8, y8, z8⟩, st8⟩ := X7.virtualBack hx (y := (⟨"com/example/refbound/refbound/dialect/tsql/ObjectClass", "kind", "(Z)Lcom/example/refbound/refbound/catalog/ObjectKind;"⟩ : MethodName)) (z := (⟨"com/example/refbound/refbound/dialect/tsql/ObjectClass", "kind", "(Z)Lcom/example/refbound/refbound/catalog/ObjectKind;"⟩ : MethodName)) hown (mvT hZ (hw _ (List.mem_of_getElem? (i := 7) rfl))) (mvT hZ (hw _ (List.mem_of_getElem? (i := 8) rfl))) (notFace_of_selects (args := #[]) (mvT hZ (hw _ (List.mem_of_getElem? (i := 10) rfl)))) (mvT hZ (hw _ (List.mem_of_getElem? (i := 10) rfl))) (mvT hZ (hw _ (List.mem_of_getElem? (i := 9) rfl))) (by decide) (backOf (W := 0) (rm1_1 l Z a0 hw [] w_ObjectClass_PROCEDURE w_ObjectKind_CLR_PROCEDURE h0 n0 Z0 F_ObjectClass_PROCEDURE_external) hZ (hw _ (List.mem_of_getElem? (i := 11) rfl)) (hw _ (List.mem_of_getElem? (i := 2) rfl)) (by decide) (by decide)) q8a q8c (g := (mkF m 152 (LS_IIIIRR p0 p1 (0 : Int32) (1 : Int32) w_ObjectClass_PROCEDURE w_ObjectKind_CLR_PROCEDURE) [(.int (1 : Int32)), (.ref w_ObjectClass_PROCEDURE)])) rfl (by rw [hml]; rfl) (Steps.refl _) (argsL := [(.int (1 : Int32))]) (rest := []) (lenOf pd__Z_Lcom_example_refbound_refbound_catalog_ObjectKind_ rfl) rfl (by show 2 * 0 + _ ≤ _; exact Nat.le_of_eq rfl) (hb hby at_152) (fun _ _ => ⟨rfl, e7, (by decide : 0 + 0 ≤ _), (by decide : 0 + 0 ≤ _)⟩)
      dsimp only [Pt.U, Pt.locs, Pt.cells, Pt.slots] at X8 l8 y8 z8 st8 hQ8
      subst l8 y8 z8
      obtain ⟨rfl, N8q, e8⟩ := hQ8
      have N8 := Fr.app N0 N8q
      refine own_go (B := T8.setTop (mkF m 155 (LS_IIIIRR p0 p1 (0 : Int32) (1 : Int32) w_ObjectClass_PROCEDURE w_ObjectKind_CLR_PROCEDURE) [(.ref w_ObjectKind_CLR_PROCEDURE)])) (fun t k => st8.trans k) ?_
      refine own_go (B := T8.setTop (mkF m 165 (LS_IIIIRR p0 p1 (0 : Int32) (1 : Int32) w_ObjectClass_PROCEDURE w_ObjectKind_CLR_PROCEDURE) [(.int (1 : Int32))])) (fun t k => ?_) ?_
      · show Steps p.tables e below (T8.setTop (mkF m 155 (LS_IIIIRR p0 p1 (0 : Int32) (1 : Int32) w_ObjectClass_PROCEDURE w_ObjectKind_CLR_PROCEDURE) [(.ref w_ObjectKind_CLR_PROCEDURE)])) _
        refine XS.aload X8.here hx rfl (hb hby at_155) rfl rfl ?_
        show Steps p.tables e below (T8.setTop (mkF m 157 (LS_IIIIRR p0 p1 (0 : Int32) (1 : Int32) w_ObjectClass_PROCEDURE w_ObjectKind_CLR_PROCEDURE) [(.ref w_ObjectKind_CLR_PROCEDURE), (.ref w_ObjectKind_CLR_PROCEDURE)])) _
        refine Jvm.RoadKit.acmp (g := (mkF m 157 (LS_IIIIRR p0 p1 (0 : Int32) (1 : Int32) w_ObjectClass_PROCEDURE w_ObjectKind_CLR_PROCEDURE) [(.ref w_ObjectKind_CLR_PROCEDURE), (.ref w_ObjectKind_CLR_PROCEDURE)])) X8 hx rfl rfl rfl (pc0 := 157) (pc' := 160) (same := true) rfl (hb hby at_157) rfl (decide_eq_true rfl) (by decide) (by decide) ?_
        show Steps p.tables e below (T8.setTop (mkF m 160 (LS_IIIIRR p0 p1 (0 : Int32) (1 : Int32) w_ObjectClass_PROCEDURE w_ObjectKind_CLR_PROCEDURE) [])) _
        refine XS.iconst X8.here hx rfl (hb hby at_160) ?_
        show Steps p.tables e below (T8.setTop (mkF m 161 (LS_IIIIRR p0 p1 (0 : Int32) (1 : Int32) w_ObjectClass_PROCEDURE w_ObjectKind_CLR_PROCEDURE) [(.int (1 : Int32))])) _
        refine XS.goto X8.here hx rfl (pc0 := 161) (pc' := 165) rfl (hb hby at_161) (by decide) (by decide) ?_
        exact k
      obtain ⟨fs, hr, hrun, hended, hW, hsame⟩ := X8.leave (v := some (.int (1 : Int32))) (fun h => by rw [Bd.returns] at h; cases h)
      refine ⟨_, _, ?_, hrun, hended, _, _, rfl, ?_, ⟨_, rfl⟩, hW, hsame.mono (by decide) (by decide)⟩
      · show Steps p.tables e below (T8.setTop (mkF m 165 (LS_IIIIRR p0 p1 (0 : Int32) (1 : Int32) w_ObjectClass_PROCEDURE w_ObjectKind_CLR_PROCEDURE) [(.int (1 : Int32))])) _
        exact retN X8 hx (t := .boolean) Bd.returns (by simp) (hb hby at_165) hr
      · show Q0 Z p0 p1 w_ObjectClass_PROCEDURE w_ObjectKind_CLR_PROCEDURE w_ObjectClass_TRIGGER w_ObjectKind_CLR_TRIGGER w_ObjectKind_TRIGGER w_ObjectClass_TABLE w_ObjectKind_TABLE w_ObjectClass_FUNCTION w_ObjectKind_CLR_FUNCTION w_ObjectKind_PROCEDURE w_ObjectClass_TYPE w_ObjectKind_TYPE w_ObjectClass_VIEW w_ObjectKind_VIEW w_ObjectKind_FUNCTION h0 n0 _ T8.heap _
        rw [e8]
        exact ⟨rfl, N8⟩
  · rw [hk1]
    refine own_go (B := s₁.setTop (mkF m 11 (LS_IIIuuu p0 p1 (1 : Int32)) [(.int (p1 &&& (1 : Int32)))])) (fun t k => ?_) ?_
    · show Steps p.tables e below (s₁.setTop (mkF m 7 (LS_IIuuuu p0 p1) [(.int (1 : Int32))])) _
      refine XS.istoreN X0.here hx rfl (hb hby at_7) rfl (l' := (LS_IIIuuu p0 p1 (1 : Int32))) rfl ?_
      show Steps p.tables e below (s₁.setTop (mkF m 8 (LS_IIIuuu p0 p1 (1 : Int32)) [])) _
      refine XS.iloadN X0.here hx rfl (hb hby at_8) rfl ?_
      show Steps p.tables e below (s₁.setTop (mkF m 9 (LS_IIIuuu p0 p1 (1 : Int32)) [(.int p1)])) _
      refine XS.iconst X0.here hx rfl (hb hby at_9) ?_
      show Steps p.tables e below (s₁.setTop (mkF m 10 (LS_IIIuuu p0 p1 (1 : Int32)) [(.int (1 : Int32)), (.int p1)])) _
      refine XS.iand X0.here hx rfl (hb hby at_10) rfl ?_
      exact k
    by_cases hc11_9 : (p1 &&& (1 : Int32)) = (0 : Int32)
    · refine own_go (B := s₁.setTop (mkF m 52 (LS_IIIIuu p0 p1 (1 : Int32) (0 : Int32)) [])) (fun t k => ?_) ?_
      · show Steps p.tables e below (s₁.setTop (mkF m 11 (LS_IIIuuu p0 p1 (1 : Int32)) [(.int (p1 &&& (1 : Int32)))])) _
        refine XS.ifYes X0.here hx rfl (pc0 := 11) (pc' := 18) rfl (hb hby at_11) rfl ((if0 _ _).trans (teq hc11_9).1) (by decide) (by decide) ?_
        show Steps p.tables e below (s₁.setTop (mkF m 18 (LS_IIIuuu p0 p1 (1 : Int32)) [])) _
        refine XS.iconst X0.here hx rfl (hb hby at_18) ?_
        show Steps p.tables e below (s₁.setTop (mkF m 19 (LS_IIIuuu p0 p1 (1 : Int32)) [(.int (0 : Int32))])) _
        refine XS.istoreN X0.here hx rfl (hb hby at_19) rfl (l' := (LS_IIIIuu p0 p1 (1 : Int32) (0 : Int32))) rfl ?_
        show Steps p.tables e below (s₁.setTop (mkF m 20 (LS_IIIIuu p0 p1 (1 : Int32) (0 : Int32)) [])) _
        refine XS.iloadN X0.here hx rfl (hb hby at_20) rfl ?_
        show Steps p.tables e below (s₁.setTop (mkF m 21 (LS_IIIIuu p0 p1 (1 : Int32) (0 : Int32)) [(.int (1 : Int32))])) _
        refine XS.ifYes X0.here hx rfl (pc0 := 21) (pc' := 47) rfl (hb hby at_21) rfl ((if0 _ _).trans (feq (by decide : ¬ ((1 : Int32) = (0 : Int32)))).2) (by decide) (by decide) ?_
        show Steps p.tables e below (s₁.setTop (mkF m 47 (LS_IIIIuu p0 p1 (1 : Int32) (0 : Int32)) [])) _
        refine XS.iloadN X0.here hx rfl (hb hby at_47) rfl ?_
        show Steps p.tables e below (s₁.setTop (mkF m 48 (LS_IIIIuu p0 p1 (1 : Int32) (0 : Int32)) [(.int (1 : Int32))])) _
        refine XS.iconst X0.here hx rfl (hb hby at_48) ?_
        show Steps p.tables e below (s₁.setTop (mkF m 49 (LS_IIIIuu p0 p1 (1 : Int32) (0 : Int32)) [(.int (1 : Int32)), (.int (1 : Int32))])) _
        refine XS.icmpNo X0.here hx rfl (hb hby at_49) rfl (teq (by decide : (1 : Int32) = (1 : Int32))).2 ?_
        exact k
      obtain ⟨T10, X10, e10, st10⟩ := getS2 X0 hx hZ hown (host := "") (Or.inl (hw _ (List.mem_of_getElem? (i := 26) rfl))) Via.refl e0 S_ObjectClass_FUNCTION (g := (mkF m 52 (LS_IIIIuu p0 p1 (1 : Int32) (0 : Int32)) [])) rfl (hb hby at_52)
      refine own_go (B := T10.setTop (mkF m 55 (LS_IIIIuu p0 p1 (1 : Int32) (0 : Int32)) [(.ref w_ObjectClass_FUNCTION)])) (fun t k => st10 _ k) ?_
      refine own_go (B := T10.setTop (mkF m 67 (LS_IIIIRu p0 p1 (1 : Int32) (0 : Int32) w_ObjectClass_FUNCTION) [])) (fun t k => ?_) ?_
      · show Steps p.tables e below (T10.setTop (mkF m 55 (LS_IIIIuu p0 p1 (1 : Int32) (0 : Int32)) [(.ref w_ObjectClass_FUNCTION)])) _
        refine XS.astore X10.here hx rfl (hb hby at_55) rfl rfl (l' := (LS_IIIIRu p0 p1 (1 : Int32) (0 : Int32) w_ObjectClass_FUNCTION)) rfl ?_
        show Steps p.tables e below (T10.setTop (mkF m 57 (LS_IIIIRu p0 p1 (1 : Int32) (0 : Int32) w_ObjectClass_FUNCTION) [])) _
        refine XS.iloadN X10.here hx rfl (hb hby at_57) rfl ?_
        show Steps p.tables e below (T10.setTop (mkF m 58 (LS_IIIIRu p0 p1 (1 : Int32) (0 : Int32) w_ObjectClass_FUNCTION) [(.int (0 : Int32))])) _
        refine XS.ifYes X10.here hx rfl (pc0 := 58) (pc' := 67) rfl (hb hby at_58) rfl ((if0 _ _).trans (teq (by decide : (0 : Int32) = (0 : Int32))).1) (by decide) (by decide) ?_
        exact k
      obtain ⟨T11, X11, e11, st11⟩ := getS2 X10 hx hZ hown (host := "") (Or.inl (hw _ (List.mem_of_getElem? (i := 40) rfl))) Via.refl e10 S_ObjectKind_FUNCTION (g := (mkF m 67 (LS_IIIIRu p0 p1 (1 : Int32) (0 : Int32) w_ObjectClass_FUNCTION) [])) rfl (hb hby at_67)
      refine own_go (B := T11.setTop (mkF m 70 (LS_IIIIRu p0 p1 (1 : Int32) (0 : Int32) w_ObjectClass_FUNCTION) [(.ref w_ObjectKind_FUNCTION)])) (fun t k => st11 _ k) ?_
      refine own_go (B := T11.setTop (mkF m 152 (LS_IIIIRR p0 p1 (1 : Int32) (0 : Int32) w_ObjectClass_FUNCTION w_ObjectKind_FUNCTION) [(.int (0 : Int32)), (.ref w_ObjectClass_FUNCTION)])) (fun t k => ?_) ?_
      · show Steps p.tables e below (T11.setTop (mkF m 70 (LS_IIIIRu p0 p1 (1 : Int32) (0 : Int32) w_ObjectClass_FUNCTION) [(.ref w_ObjectKind_FUNCTION)])) _
        refine XS.astore X11.here hx rfl (hb hby at_70) rfl rfl (l' := (LS_IIIIRR p0 p1 (1 : Int32) (0 : Int32) w_ObjectClass_FUNCTION w_ObjectKind_FUNCTION)) rfl ?_
        show Steps p.tables e below (T11.setTop (mkF m 72 (LS_IIIIRR p0 p1 (1 : Int32) (0 : Int32) w_ObjectClass_FUNCTION w_ObjectKind_FUNCTION) [])) _
        refine XS.goto X11.here hx rfl (pc0 := 72) (pc' := 149) rfl (hb hby at_72) (by decide) (by decide) ?_
        show Steps p.tables e below (T11.setTop (mkF m 149 (LS_IIIIRR p0 p1 (1 : Int32) (0 : Int32) w_ObjectClass_FUNCTION w_ObjectKind_FUNCTION) [])) _
        refine XS.aload X11.here hx rfl (hb hby at_149) rfl rfl ?_
        show Steps p.tables e below (T11.setTop (mkF m 151 (LS_IIIIRR p0 p1 (1 : Int32) (0 : Int32) w_ObjectClass_FUNCTION w_ObjectKind_FUNCTION) [(.ref w_ObjectClass_FUNCTION)])) _
        refine XS.iloadN X11.here hx rfl (hb hby at_151) rfl ?_
        exact k
      obtain ⟨cq12, kq12, q12a, q12b, q12c⟩ := isOf hZ e11 E_ObjectClass_FUNCTION
      obtain ⟨_, _, ⟨T12, L12, k12, n12⟩, -, X12, ⟨Lc12, hQ12, l12, y12, z12⟩, st12⟩ := X11.virtualBack hx (y := (⟨"com/example/refbound/refbound/dialect/tsql/ObjectClass", "kind", "(Z)Lcom/example/refbound/refbound/catalog/ObjectKind;"⟩ : MethodName)) (z := (⟨"com/example/refbound/refbound/dialect/tsql/ObjectClass", "kind", "(Z)Lcom/example/refbound/refbound/catalog/ObjectKind;"⟩ : MethodName)) hown (mvT hZ (hw _ (List.mem_of_getElem? (i := 7) rfl))) (mvT hZ (hw _ (List.mem_of_getElem? (i := 8) rfl))) (notFace_of_selects (args := #[]) (mvT hZ (hw _ (List.mem_of_getElem? (i := 10) rfl)))) (mvT hZ (hw _ (List.mem_of_getElem? (i := 10) rfl))) (mvT hZ (hw _ (List.mem_of_getElem? (i := 9) rfl))) (by decide) (backOf (W := 0) (rm1_0 l Z a0 hw [] w_ObjectClass_FUNCTION w_ObjectKind_FUNCTION h0 n0 Z0 F_ObjectClass_FUNCTION_written) hZ (hw _ (List.mem_of_getElem? (i := 11) rfl)) (hw _ (List.mem_of_getElem? (i := 2) rfl)) (by decide) (by decide)) q12a q12c (g := (mkF m 152 (LS_IIIIRR p0 p1 (1 : Int32) (0 : Int32) w_ObjectClass_FUNCTION w_ObjectKind_FUNCTION) [(.int (0 : Int32)), (.ref w_ObjectClass_FUNCTION)])) rfl (by rw [hml]; rfl) (Steps.refl _) (argsL := [(.int (0 : Int32))]) (rest := []) (lenOf pd__Z_Lcom_example_refbound_refbound_catalog_ObjectKind_ rfl) rfl (by show 2 * 0 + _ ≤ _; exact Nat.le_of_eq rfl) (hb hby at_152) (fun _ _ => ⟨rfl, e11, (by decide : 0 + 0 ≤ _), (by decide : 0 + 0 ≤ _)⟩)
      dsimp only [Pt.U, Pt.locs, Pt.cells, Pt.slots] at X12 l12 y12 z12 st12 hQ12
      subst l12 y12 z12
      obtain ⟨rfl, N12q, e12⟩ := hQ12
      have N12 := Fr.app N0 N12q
      refine own_go (B := T12.setTop (mkF m 155 (LS_IIIIRR p0 p1 (1 : Int32) (0 : Int32) w_ObjectClass_FUNCTION w_ObjectKind_FUNCTION) [(.ref w_ObjectKind_FUNCTION)])) (fun t k => st12.trans k) ?_
      refine own_go (B := T12.setTop (mkF m 165 (LS_IIIIRR p0 p1 (1 : Int32) (0 : Int32) w_ObjectClass_FUNCTION w_ObjectKind_FUNCTION) [(.int (1 : Int32))])) (fun t k => ?_) ?_
      · show Steps p.tables e below (T12.setTop (mkF m 155 (LS_IIIIRR p0 p1 (1 : Int32) (0 : Int32) w_ObjectClass_FUNCTION w_ObjectKind_FUNCTION) [(.ref w_ObjectKind_FUNCTION)])) _
        refine XS.aload X12.here hx rfl (hb hby at_155) rfl rfl ?_
        show Steps p.tables e below (T12.setTop (mkF m 157 (LS_IIIIRR p0 p1 (1 : Int32) (0 : Int32) w_ObjectClass_FUNCTION w_ObjectKind_FUNCTION) [(.ref w_ObjectKind_FUNCTION), (.ref w_ObjectKind_FUNCTION)])) _
        refine Jvm.RoadKit.acmp (g := (mkF m 157 (LS_IIIIRR p0 p1 (1 : Int32) (0 : Int32) w_ObjectClass_FUNCTION w_ObjectKind_FUNCTION) [(.ref w_ObjectKind_FUNCTION), (.ref w_ObjectKind_FUNCTION)])) X12 hx rfl rfl rfl (pc0 := 157) (pc' := 160) (same := true) rfl (hb hby at_157) rfl (decide_eq_true rfl) (by decide) (by decide) ?_
        show Steps p.tables e below (T12.setTop (mkF m 160 (LS_IIIIRR p0 p1 (1 : Int32) (0 : Int32) w_ObjectClass_FUNCTION w_ObjectKind_FUNCTION) [])) _
        refine XS.iconst X12.here hx rfl (hb hby at_160) ?_
        show Steps p.tables e below (T12.setTop (mkF m 161 (LS_IIIIRR p0 p1 (1 : Int32) (0 : Int32) w_ObjectClass_FUNCTION w_ObjectKind_FUNCTION) [(.int (1 : Int32))])) _
        refine XS.goto X12.here hx rfl (pc0 := 161) (pc' := 165) rfl (hb hby at_161) (by decide) (by decide) ?_
        exact k
      obtain ⟨fs, hr, hrun, hended, hW, hsame⟩ := X12.leave (v := some (.int (1 : Int32))) (fun h => by rw [Bd.returns] at h; cases h)
      refine ⟨_, _, ?_, hrun, hended, _, _, rfl, ?_, ⟨_, rfl⟩, hW, hsame.mono (by decide) (by decide)⟩
      · show Steps p.tables e below (T12.setTop (mkF m 165 (LS_IIIIRR p0 p1 (1 : Int32) (0 : Int32) w_ObjectClass_FUNCTION w_ObjectKind_FUNCTION) [(.int (1 : Int32))])) _
        exact retN X12 hx (t := .boolean) Bd.returns (by simp) (hb hby at_165) hr
      · show Q0 Z p0 p1 w_ObjectClass_PROCEDURE w_ObjectKind_CLR_PROCEDURE w_ObjectClass_TRIGGER w_ObjectKind_CLR_TRIGGER w_ObjectKind_TRIGGER w_ObjectClass_TABLE w_ObjectKind_TABLE w_ObjectClass_FUNCTION w_ObjectKind_CLR_FUNCTION w_ObjectKind_PROCEDURE w_ObjectClass_TYPE w_ObjectKind_TYPE w_ObjectClass_VIEW w_ObjectKind_VIEW w_ObjectKind_FUNCTION h0 n0 _ T12.heap _
        rw [e12]
        exact ⟨rfl, N12⟩
    · refine own_go (B := s₁.setTop (mkF m 52 (LS_IIIIuu p0 p1 (1 : Int32) (1 : Int32)) [])) (fun t k => ?_) ?_
      · show Steps p.tables e below (s₁.setTop (mkF m 11 (LS_IIIuuu p0 p1 (1 : Int32)) [(.int (p1 &&& (1 : Int32)))])) _
        refine XS.ifNo X0.here hx rfl (hb hby at_11) rfl ((if0 _ _).trans (feq hc11_9).1) ?_
        show Steps p.tables e below (s₁.setTop (mkF m 14 (LS_IIIuuu p0 p1 (1 : Int32)) [])) _
        refine XS.iconst X0.here hx rfl (hb hby at_14) ?_
        show Steps p.tables e below (s₁.setTop (mkF m 15 (LS_IIIuuu p0 p1 (1 : Int32)) [(.int (1 : Int32))])) _
        refine XS.goto X0.here hx rfl (pc0 := 15) (pc' := 19) rfl (hb hby at_15) (by decide) (by decide) ?_
        show Steps p.tables e below (s₁.setTop (mkF m 19 (LS_IIIuuu p0 p1 (1 : Int32)) [(.int (1 : Int32))])) _
        refine XS.istoreN X0.here hx rfl (hb hby at_19) rfl (l' := (LS_IIIIuu p0 p1 (1 : Int32) (1 : Int32))) rfl ?_
        show Steps p.tables e below (s₁.setTop (mkF m 20 (LS_IIIIuu p0 p1 (1 : Int32) (1 : Int32)) [])) _
        refine XS.iloadN X0.here hx rfl (hb hby at_20) rfl ?_
        show Steps p.tables e below (s₁.setTop (mkF m 21 (LS_IIIIuu p0 p1 (1 : Int32) (1 : Int32)) [(.int (1 : Int32))])) _
        refine XS.ifYes X0.here hx rfl (pc0 := 21) (pc' := 47) rfl (hb hby at_21) rfl ((if0 _ _).trans (feq (by decide : ¬ ((1 : Int32) = (0 : Int32)))).2) (by decide) (by decide) ?_
        show Steps p.tables e below (s₁.setTop (mkF m 47 (LS_IIIIuu p0 p1 (1 : Int32) (1 : Int32)) [])) _
        refine XS.iloadN X0.here hx rfl (hb hby at_47) rfl ?_
        show Steps p.tables e below (s₁.setTop (mkF m 48 (LS_IIIIuu p0 p1 (1 : Int32) (1 : Int32)) [(.int (1 : Int32))])) _
        refine XS.iconst X0.here hx rfl (hb hby at_48) ?_
        show Steps p.tables e below (s₁.setTop (mkF m 49 (LS_IIIIuu p0 p1 (1 : Int32) (1 : Int32)) [(.int (1 : Int32)), (.int (1 : Int32))])) _
        refine XS.icmpNo X0.here hx rfl (hb hby at_49) rfl (teq (by decide : (1 : Int32) = (1 : Int32))).2 ?_
        exact k
      obtain ⟨T13, X13, e13, st13⟩ := getS2 X0 hx hZ hown (host := "") (Or.inl (hw _ (List.mem_of_getElem? (i := 26) rfl))) Via.refl e0 S_ObjectClass_FUNCTION (g := (mkF m 52 (LS_IIIIuu p0 p1 (1 : Int32) (1 : Int32)) [])) rfl (hb hby at_52)
      refine own_go (B := T13.setTop (mkF m 55 (LS_IIIIuu p0 p1 (1 : Int32) (1 : Int32)) [(.ref w_ObjectClass_FUNCTION)])) (fun t k => st13 _ k) ?_
      refine own_go (B := T13.setTop (mkF m 61 (LS_IIIIRu p0 p1 (1 : Int32) (1 : Int32) w_ObjectClass_FUNCTION) [])) (fun t k => ?_) ?_
      · show Steps p.tables e below (T13.setTop (mkF m 55 (LS_IIIIuu p0 p1 (1 : Int32) (1 : Int32)) [(.ref w_ObjectClass_FUNCTION)])) _
        refine XS.astore X13.here hx rfl (hb hby at_55) rfl rfl (l' := (LS_IIIIRu p0 p1 (1 : Int32) (1 : Int32) w_ObjectClass_FUNCTION)) rfl ?_
        show Steps p.tables e below (T13.setTop (mkF m 57 (LS_IIIIRu p0 p1 (1 : Int32) (1 : Int32) w_ObjectClass_FUNCTION) [])) _
        refine XS.iloadN X13.here hx rfl (hb hby at_57) rfl ?_
        show Steps p.tables e below (T13.setTop (mkF m 58 (LS_IIIIRu p0 p1 (1 : Int32) (1 : Int32) w_ObjectClass_FUNCTION) [(.int (1 : Int32))])) _
        refine XS.ifNo X13.here hx rfl (hb hby at_58) rfl ((if0 _ _).trans (feq (by decide : ¬ ((1 : Int32) = (0 : Int32)))).1) ?_
        exact k
      obtain ⟨T14, X14, e14, st14⟩ := getS2 X13 hx hZ hown (host := "") (Or.inl (hw _ (List.mem_of_getElem? (i := 28) rfl))) Via.refl e13 S_ObjectKind_CLR_FUNCTION (g := (mkF m 61 (LS_IIIIRu p0 p1 (1 : Int32) (1 : Int32) w_ObjectClass_FUNCTION) [])) rfl (hb hby at_61)
      refine own_go (B := T14.setTop (mkF m 64 (LS_IIIIRu p0 p1 (1 : Int32) (1 : Int32) w_ObjectClass_FUNCTION) [(.ref w_ObjectKind_CLR_FUNCTION)])) (fun t k => st14 _ k) ?_
      refine own_go (B := T14.setTop (mkF m 152 (LS_IIIIRR p0 p1 (1 : Int32) (1 : Int32) w_ObjectClass_FUNCTION w_ObjectKind_CLR_FUNCTION) [(.int (1 : Int32)), (.ref w_ObjectClass_FUNCTION)])) (fun t k => ?_) ?_
      · show Steps p.tables e below (T14.setTop (mkF m 64 (LS_IIIIRu p0 p1 (1 : Int32) (1 : Int32) w_ObjectClass_FUNCTION) [(.ref w_ObjectKind_CLR_FUNCTION)])) _
        refine XS.goto X14.here hx rfl (pc0 := 64) (pc' := 70) rfl (hb hby at_64) (by decide) (by decide) ?_
        show Steps p.tables e below (T14.setTop (mkF m 70 (LS_IIIIRu p0 p1 (1 : Int32) (1 : Int32) w_ObjectClass_FUNCTION) [(.ref w_ObjectKind_CLR_FUNCTION)])) _
        refine XS.astore X14.here hx rfl (hb hby at_70) rfl rfl (l' := (LS_IIIIRR p0 p1 (1 : Int32) (1 : Int32) w_ObjectClass_FUNCTION w_ObjectKind_CLR_FUNCTION)) rfl ?_
        show Steps p.tables e below (T14.setTop (mkF m 72 (LS_IIIIRR p0 p1 (1 : Int32) (1 : Int32) w_ObjectClass_FUNCTION w_ObjectKind_CLR_FUNCTION) [])) _
        refine XS.goto X14.here hx rfl (pc0 := 72) (pc' := 149) rfl (hb hby at_72) (by decide) (by decide) ?_
        show Steps p.tables e below (T14.setTop (mkF m 149 (LS_IIIIRR p0 p1 (1 : Int32) (1 : Int32) w_ObjectClass_FUNCTION w_ObjectKind_CLR_FUNCTION) [])) _
        refine XS.aload X14.here hx rfl (hb hby at_149) rfl rfl ?_
        show Steps p.tables e below (T14.setTop (mkF m 151 (LS_IIIIRR p0 p1 (1 : Int32) (1 : Int32) w_ObjectClass_FUNCTION w_ObjectKind_CLR_FUNCTION) [(.ref w_ObjectClass_FUNCTION)])) _
        refine XS.iloadN X14.here hx rfl (hb hby at_151) rfl ?_
        exact k
      obtain ⟨cq15, kq15, q15a, q15b, q15c⟩ := isOf hZ e14 E_ObjectClass_FUNCTION
      obtain ⟨_, _, ⟨T15, L15, k15, n15⟩, -, X15, ⟨Lc15, hQ15, l15, y15, z15⟩, st15⟩ := X14.virtualBack hx (y := (⟨"com/example/refbound/refbound/dialect/tsql/ObjectClass", "kind", "(Z)Lcom/example/refbound/refbound/catalog/ObjectKind;"⟩ : MethodName)) (z := (⟨"com/example/refbound/refbound/dialect/tsql/ObjectClass", "kind", "(Z)Lcom/example/refbound/refbound/catalog/ObjectKind;"⟩ : MethodName)) hown (mvT hZ (hw _ (List.mem_of_getElem? (i := 7) rfl))) (mvT hZ (hw _ (List.mem_of_getElem? (i := 8) rfl))) (notFace_of_selects (args := #[]) (mvT hZ (hw _ (List.mem_of_getElem? (i := 10) rfl)))) (mvT hZ (hw _ (List.mem_of_getElem? (i := 10) rfl))) (mvT hZ (hw _ (List.mem_of_getElem? (i := 9) rfl))) (by decide) (backOf (W := 0) (rm1_1 l Z a0 hw [] w_ObjectClass_FUNCTION w_ObjectKind_CLR_FUNCTION h0 n0 Z0 F_ObjectClass_FUNCTION_external) hZ (hw _ (List.mem_of_getElem? (i := 11) rfl)) (hw _ (List.mem_of_getElem? (i := 2) rfl)) (by decide) (by decide)) q15a q15c (g := (mkF m 152 (LS_IIIIRR p0 p1 (1 : Int32) (1 : Int32) w_ObjectClass_FUNCTION w_ObjectKind_CLR_FUNCTION) [(.int (1 : Int32)), (.ref w_ObjectClass_FUNCTION)])) rfl (by rw [hml]; rfl) (Steps.refl _) (argsL := [(.int (1 : Int32))]) (rest := []) (lenOf pd__Z_Lcom_example_refbound_refbound_catalog_ObjectKind_ rfl) rfl (by show 2 * 0 + _ ≤ _; exact Nat.le_of_eq rfl) (hb hby at_152) (fun _ _ => ⟨rfl, e14, (by decide : 0 + 0 ≤ _), (by decide : 0 + 0 ≤ _)⟩)
      dsimp only [Pt.U, Pt.locs, Pt.cells, Pt.slots] at X15 l15 y15 z15 st15 hQ15
      subst l15 y15 z15
      obtain ⟨rfl, N15q, e15⟩ := hQ15
      have N15 := Fr.app N0 N15q
      refine own_go (B := T15.setTop (mkF m 155 (LS_IIIIRR p0 p1 (1 : Int32) (1 : Int32) w_ObjectClass_FUNCTION w_ObjectKind_CLR_FUNCTION) [(.ref w_ObjectKind_CLR_FUNCTION)])) (fun t k => st15.trans k) ?_
      refine own_go (B := T15.setTop (mkF m 165 (LS_IIIIRR p0 p1 (1 : Int32) (1 : Int32) w_ObjectClass_FUNCTION w_ObjectKind_CLR_FUNCTION) [(.int (1 : Int32))])) (fun t k => ?_) ?_
      · show Steps p.tables e below (T15.setTop (mkF m 155 (LS_IIIIRR p0 p1 (1 : Int32) (1 : Int32) w_ObjectClass_FUNCTION w_ObjectKind_CLR_FUNCTION) [(.ref w_ObjectKind_CLR_FUNCTION)])) _
        refine XS.aload X15.here hx rfl (hb hby at_155) rfl rfl ?_
        show Steps p.tables e below (T15.setTop (mkF m 157 (LS_IIIIRR p0 p1 (1 : Int32) (1 : Int32) w_ObjectClass_FUNCTION w_ObjectKind_CLR_FUNCTION) [(.ref w_ObjectKind_CLR_FUNCTION), (.ref w_ObjectKind_CLR_FUNCTION)])) _
        refine Jvm.RoadKit.acmp (g := (mkF m 157 (LS_IIIIRR p0 p1 (1 : Int32) (1 : Int32) w_ObjectClass_FUNCTION w_ObjectKind_CLR_FUNCTION) [(.ref w_ObjectKind_CLR_FUNCTION), (.ref w_ObjectKind_CLR_FUNCTION)])) X15 hx rfl rfl rfl (pc0 := 157) (pc' := 160) (same := true) rfl (hb hby at_157) rfl (decide_eq_true rfl) (by decide) (by decide) ?_
        show Steps p.tables e below (T15.setTop (mkF m 160 (LS_IIIIRR p0 p1 (1 : Int32) (1 : Int32) w_ObjectClass_FUNCTION w_ObjectKind_CLR_FUNCTION) [])) _
        refine XS.iconst X15.here hx rfl (hb hby at_160) ?_
        show Steps p.tables e below (T15.setTop (mkF m 161 (LS_IIIIRR p0 p1 (1 : Int32) (1 : Int32) w_ObjectClass_FUNCTION w_ObjectKind_CLR_FUNCTION) [(.int (1 : Int32))])) _
        refine XS.goto X15.here hx rfl (pc0 := 161) (pc' := 165) rfl (hb hby at_161) (by decide) (by decide) ?_
        exact k
      obtain ⟨fs, hr, hrun, hended, hW, hsame⟩ := X15.leave (v := some (.int (1 : Int32))) (fun h => by rw [Bd.returns] at h; cases h)
      refine ⟨_, _, ?_, hrun, hended, _, _, rfl, ?_, ⟨_, rfl⟩, hW, hsame.mono (by decide) (by decide)⟩
      · show Steps p.tables e below (T15.setTop (mkF m 165 (LS_IIIIRR p0 p1 (1 : Int32) (1 : Int32) w_ObjectClass_FUNCTION w_ObjectKind_CLR_FUNCTION) [(.int (1 : Int32))])) _
        exact retN X15 hx (t := .boolean) Bd.returns (by simp) (hb hby at_165) hr
      · show Q0 Z p0 p1 w_ObjectClass_PROCEDURE w_ObjectKind_CLR_PROCEDURE w_ObjectClass_TRIGGER w_ObjectKind_CLR_TRIGGER w_ObjectKind_TRIGGER w_ObjectClass_TABLE w_ObjectKind_TABLE w_ObjectClass_FUNCTION w_ObjectKind_CLR_FUNCTION w_ObjectKind_PROCEDURE w_ObjectClass_TYPE w_ObjectKind_TYPE w_ObjectClass_VIEW w_ObjectKind_VIEW w_ObjectKind_FUNCTION h0 n0 _ T15.heap _
        rw [e15]
        exact ⟨rfl, N15⟩
  · rw [hk1]
    refine own_go (B := s₁.setTop (mkF m 11 (LS_IIIuuu p0 p1 (2 : Int32)) [(.int (p1 &&& (1 : Int32)))])) (fun t k => ?_) ?_
    · show Steps p.tables e below (s₁.setTop (mkF m 7 (LS_IIuuuu p0 p1) [(.int (2 : Int32))])) _
      refine XS.istoreN X0.here hx rfl (hb hby at_7) rfl (l' := (LS_IIIuuu p0 p1 (2 : Int32))) rfl ?_
      show Steps p.tables e below (s₁.setTop (mkF m 8 (LS_IIIuuu p0 p1 (2 : Int32)) [])) _
      refine XS.iloadN X0.here hx rfl (hb hby at_8) rfl ?_
      show Steps p.tables e below (s₁.setTop (mkF m 9 (LS_IIIuuu p0 p1 (2 : Int32)) [(.int p1)])) _
      refine XS.iconst X0.here hx rfl (hb hby at_9) ?_
      show Steps p.tables e below (s₁.setTop (mkF m 10 (LS_IIIuuu p0 p1 (2 : Int32)) [(.int (1 : Int32)), (.int p1)])) _
      refine XS.iand X0.here hx rfl (hb hby at_10) rfl ?_
      exact k
    by_cases hc11_16 : (p1 &&& (1 : Int32)) = (0 : Int32)
    · refine own_go (B := s₁.setTop (mkF m 80 (LS_IIIIuu p0 p1 (2 : Int32) (0 : Int32)) [])) (fun t k => ?_) ?_
      · show Steps p.tables e below (s₁.setTop (mkF m 11 (LS_IIIuuu p0 p1 (2 : Int32)) [(.int (p1 &&& (1 : Int32)))])) _
        refine XS.ifYes X0.here hx rfl (pc0 := 11) (pc' := 18) rfl (hb hby at_11) rfl ((if0 _ _).trans (teq hc11_16).1) (by decide) (by decide) ?_
        show Steps p.tables e below (s₁.setTop (mkF m 18 (LS_IIIuuu p0 p1 (2 : Int32)) [])) _
        refine XS.iconst X0.here hx rfl (hb hby at_18) ?_
        show Steps p.tables e below (s₁.setTop (mkF m 19 (LS_IIIuuu p0 p1 (2 : Int32)) [(.int (0 : Int32))])) _
        refine XS.istoreN X0.here hx rfl (hb hby at_19) rfl (l' := (LS_IIIIuu p0 p1 (2 : Int32) (0 : Int32))) rfl ?_
        show Steps p.tables e below (s₁.setTop (mkF m 20 (LS_IIIIuu p0 p1 (2 : Int32) (0 : Int32)) [])) _
        refine XS.iloadN X0.here hx rfl (hb hby at_20) rfl ?_
        show Steps p.tables e below (s₁.setTop (mkF m 21 (LS_IIIIuu p0 p1 (2 : Int32) (0 : Int32)) [(.int (2 : Int32))])) _
        refine XS.ifYes X0.here hx rfl (pc0 := 21) (pc' := 47) rfl (hb hby at_21) rfl ((if0 _ _).trans (feq (by decide : ¬ ((2 : Int32) = (0 : Int32)))).2) (by decide) (by decide) ?_
        show Steps p.tables e below (s₁.setTop (mkF m 47 (LS_IIIIuu p0 p1 (2 : Int32) (0 : Int32)) [])) _
        refine XS.iloadN X0.here hx rfl (hb hby at_47) rfl ?_
        show Steps p.tables e below (s₁.setTop (mkF m 48 (LS_IIIIuu p0 p1 (2 : Int32) (0 : Int32)) [(.int (2 : Int32))])) _
        refine XS.iconst X0.here hx rfl (hb hby at_48) ?_
        show Steps p.tables e below (s₁.setTop (mkF m 49 (LS_IIIIuu p0 p1 (2 : Int32) (0 : Int32)) [(.int (1 : Int32)), (.int (2 : Int32))])) _
        refine XS.icmpYes X0.here hx rfl (pc0 := 49) (pc' := 75) rfl (hb hby at_49) rfl (feq (by decide : ¬ ((2 : Int32) = (1 : Int32)))).2 (by decide) (by decide) ?_
        show Steps p.tables e below (s₁.setTop (mkF m 75 (LS_IIIIuu p0 p1 (2 : Int32) (0 : Int32)) [])) _
        refine XS.iloadN X0.here hx rfl (hb hby at_75) rfl ?_
        show Steps p.tables e below (s₁.setTop (mkF m 76 (LS_IIIIuu p0 p1 (2 : Int32) (0 : Int32)) [(.int (2 : Int32))])) _
        refine XS.iconst X0.here hx rfl (hb hby at_76) ?_
        show Steps p.tables e below (s₁.setTop (mkF m 77 (LS_IIIIuu p0 p1 (2 : Int32) (0 : Int32)) [(.int (2 : Int32)), (.int (2 : Int32))])) _
        refine XS.icmpNo X0.here hx rfl (hb hby at_77) rfl (teq (by decide : (2 : Int32) = (2 : Int32))).2 ?_
        exact k
      obtain ⟨T17, X17, e17, st17⟩ := getS2 X0 hx hZ hown (host := "") (Or.inl (hw _ (List.mem_of_getElem? (i := 14) rfl))) Via.refl e0 S_ObjectClass_TRIGGER (g := (mkF m 80 (LS_IIIIuu p0 p1 (2 : Int32) (0 : Int32)) [])) rfl (hb hby at_80)
      refine own_go (B := T17.setTop (mkF m 83 (LS_IIIIuu p0 p1 (2 : Int32) (0 : Int32)) [(.ref w_ObjectClass_TRIGGER)])) (fun t k => st17 _ k) ?_
      refine own_go (B := T17.setTop (mkF m 95 (LS_IIIIRu p0 p1 (2 : Int32) (0 : Int32) w_ObjectClass_TRIGGER) [])) (fun t k => ?_) ?_
      · show Steps p.tables e below (T17.setTop (mkF m 83 (LS_IIIIuu p0 p1 (2 : Int32) (0 : Int32)) [(.ref w_ObjectClass_TRIGGER)])) _
        refine XS.astore X17.here hx rfl (hb hby at_83) rfl rfl (l' := (LS_IIIIRu p0 p1 (2 : Int32) (0 : Int32) w_ObjectClass_TRIGGER)) rfl ?_
        show Steps p.tables e below (T17.setTop (mkF m 85 (LS_IIIIRu p0 p1 (2 : Int32) (0 : Int32) w_ObjectClass_TRIGGER) [])) _
        refine XS.iloadN X17.here hx rfl (hb hby at_85) rfl ?_
        show Steps p.tables e below (T17.setTop (mkF m 86 (LS_IIIIRu p0 p1 (2 : Int32) (0 : Int32) w_ObjectClass_TRIGGER) [(.int (0 : Int32))])) _
        refine XS.ifYes X17.here hx rfl (pc0 := 86) (pc' := 95) rfl (hb hby at_86) rfl ((if0 _ _).trans (teq (by decide : (0 : Int32) = (0 : Int32))).1) (by decide) (by decide) ?_
        exact k
      obtain ⟨T18, X18, e18, st18⟩ := getS2 X17 hx hZ hown (host := "") (Or.inl (hw _ (List.mem_of_getElem? (i := 18) rfl))) Via.refl e17 S_ObjectKind_TRIGGER (g := (mkF m 95 (LS_IIIIRu p0 p1 (2 : Int32) (0 : Int32) w_ObjectClass_TRIGGER) [])) rfl (hb hby at_95)
      refine own_go (B := T18.setTop (mkF m 98 (LS_IIIIRu p0 p1 (2 : Int32) (0 : Int32) w_ObjectClass_TRIGGER) [(.ref w_ObjectKind_TRIGGER)])) (fun t k => st18 _ k) ?_
      refine own_go (B := T18.setTop (mkF m 152 (LS_IIIIRR p0 p1 (2 : Int32) (0 : Int32) w_ObjectClass_TRIGGER w_ObjectKind_TRIGGER) [(.int (0 : Int32)), (.ref w_ObjectClass_TRIGGER)])) (fun t k => ?_) ?_
      · show Steps p.tables e below (T18.setTop (mkF m 98 (LS_IIIIRu p0 p1 (2 : Int32) (0 : Int32) w_ObjectClass_TRIGGER) [(.ref w_ObjectKind_TRIGGER)])) _
        refine XS.astore X18.here hx rfl (hb hby at_98) rfl rfl (l' := (LS_IIIIRR p0 p1 (2 : Int32) (0 : Int32) w_ObjectClass_TRIGGER w_ObjectKind_TRIGGER)) rfl ?_
        show Steps p.tables e below (T18.setTop (mkF m 100 (LS_IIIIRR p0 p1 (2 : Int32) (0 : Int32) w_ObjectClass_TRIGGER w_ObjectKind_TRIGGER) [])) _
        refine XS.goto X18.here hx rfl (pc0 := 100) (pc' := 149) rfl (hb hby at_100) (by decide) (by decide) ?_
        show Steps p.tables e below (T18.setTop (mkF m 149 (LS_IIIIRR p0 p1 (2 : Int32) (0 : Int32) w_ObjectClass_TRIGGER w_ObjectKind_TRIGGER) [])) _
        refine XS.aload X18.here hx rfl (hb hby at_149) rfl rfl ?_
        show Steps p.tables e below (T18.setTop (mkF m 151 (LS_IIIIRR p0 p1 (2 : Int32) (0 : Int32) w_ObjectClass_TRIGGER w_ObjectKind_TRIGGER) [(.ref w_ObjectClass_TRIGGER)])) _
        refine XS.iloadN X18.here hx rfl (hb hby at_151) rfl ?_
        exact k
      obtain ⟨cq19, kq19, q19a, q19b, q19c⟩ := isOf hZ e18 E_ObjectClass_TRIGGER
      obtain ⟨_, _, ⟨T19, L19, k19, n19⟩, -, X19, ⟨Lc19, hQ19, l19, y19, z19⟩, st19⟩ := X18.virtualBack hx (y := (⟨"com/example/refbound/refbound/dialect/tsql/ObjectClass", "kind", "(Z)Lcom/example/refbound/refbound/catalog/ObjectKind;"⟩ : MethodName)) (z := (⟨"com/example/refbound/refbound/dialect/tsql/ObjectClass", "kind", "(Z)Lcom/example/refbound/refbound/catalog/ObjectKind;"⟩ : MethodName)) hown (mvT hZ (hw _ (List.mem_of_getElem? (i := 7) rfl))) (mvT hZ (hw _ (List.mem_of_getElem? (i := 8) rfl))) (notFace_of_selects (args := #[]) (mvT hZ (hw _ (List.mem_of_getElem? (i := 10) rfl)))) (mvT hZ (hw _ (List.mem_of_getElem? (i := 10) rfl))) (mvT hZ (hw _ (List.mem_of_getElem? (i := 9) rfl))) (by decide) (backOf (W := 0) (rm1_0 l Z a0 hw [] w_ObjectClass_TRIGGER w_ObjectKind_TRIGGER h0 n0 Z0 F_ObjectClass_TRIGGER_written) hZ (hw _ (List.mem_of_getElem? (i := 11) rfl)) (hw _ (List.mem_of_getElem? (i := 2) rfl)) (by decide) (by decide)) q19a q19c (g := (mkF m 152 (LS_IIIIRR p0 p1 (2 : Int32) (0 : Int32) w_ObjectClass_TRIGGER w_ObjectKind_TRIGGER) [(.int (0 : Int32)), (.ref w_ObjectClass_TRIGGER)])) rfl (by rw [hml]; rfl) (Steps.refl _) (argsL := [(.int (0 : Int32))]) (rest := []) (lenOf pd__Z_Lcom_example_refbound_refbound_catalog_ObjectKind_ rfl) rfl (by show 2 * 0 + _ ≤ _; exact Nat.le_of_eq rfl) (hb hby at_152) (fun _ _ => ⟨rfl, e18, (by decide : 0 + 0 ≤ _), (by decide : 0 + 0 ≤ _)⟩)
      dsimp only [Pt.U, Pt.locs, Pt.cells, Pt.slots] at X19 l19 y19 z19 st19 hQ19
      subst l19 y19 z19
      obtain ⟨rfl, N19q, e19⟩ := hQ19
      have N19 := Fr.app N0 N19q
      refine own_go (B := T19.setTop (mkF m 155 (LS_IIIIRR p0 p1 (2 : Int32) (0 : Int32) w_ObjectClass_TRIGGER w_ObjectKind_TRIGGER) [(.ref w_ObjectKind_TRIGGER)])) (fun t k => st19.trans k) ?_
      refine own_go (B := T19.setTop (mkF m 165 (LS_IIIIRR p0 p1 (2 : Int32) (0 : Int32) w_ObjectClass_TRIGGER w_ObjectKind_TRIGGER) [(.int (1 : Int32))])) (fun t k => ?_) ?_
      · show Steps p.tables e below (T19.setTop (mkF m 155 (LS_IIIIRR p0 p1 (2 : Int32) (0 : Int32) w_ObjectClass_TRIGGER w_ObjectKind_TRIGGER) [(.ref w_ObjectKind_TRIGGER)])) _
        refine XS.aload X19.here hx rfl (hb hby at_155) rfl rfl ?_
        show Steps p.tables e below (T19.setTop (mkF m 157 (LS_IIIIRR p0 p1 (2 : Int32) (0 : Int32) w_ObjectClass_TRIGGER w_ObjectKind_TRIGGER) [(.ref w_ObjectKind_TRIGGER), (.ref w_ObjectKind_TRIGGER)])) _
        refine Jvm.RoadKit.acmp (g := (mkF m 157 (LS_IIIIRR p0 p1 (2 : Int32) (0 : Int32) w_ObjectClass_TRIGGER w_ObjectKind_TRIGGER) [(.ref w_ObjectKind_TRIGGER), (.ref w_ObjectKind_TRIGGER)])) X19 hx rfl rfl rfl (pc0 := 157) (pc' := 160) (same := true) rfl (hb hby at_157) rfl (decide_eq_true rfl) (by decide) (by decide) ?_
        show Steps p.tables e below (T19.setTop (mkF m 160 (LS_IIIIRR p0 p1 (2 : Int32) (0 : Int32) w_ObjectClass_TRIGGER w_ObjectKind_TRIGGER) [])) _
        refine XS.iconst X19.here hx rfl (hb hby at_160) ?_
        show Steps p.tables e below (T19.setTop (mkF m 161 (LS_IIIIRR p0 p1 (2 : Int32) (0 : Int32) w_ObjectClass_TRIGGER w_ObjectKind_TRIGGER) [(.int (1 : Int32))])) _
        refine XS.goto X19.here hx rfl (pc0 := 161) (pc' := 165) rfl (hb hby at_161) (by decide) (by decide) ?_
        exact k
      obtain ⟨fs, hr, hrun, hended, hW, hsame⟩ := X19.leave (v := some (.int (1 : Int32))) (fun h => by rw [Bd.returns] at h; cases h)
      refine ⟨_, _, ?_, hrun, hended, _, _, rfl, ?_, ⟨_, rfl⟩, hW, hsame.mono (by decide) (by decide)⟩
      · show Steps p.tables e below (T19.setTop (mkF m 165 (LS_IIIIRR p0 p1 (2 : Int32) (0 : Int32) w_ObjectClass_TRIGGER w_ObjectKind_TRIGGER) [(.int (1 : Int32))])) _
        exact retN X19 hx (t := .boolean) Bd.returns (by simp) (hb hby at_165) hr
      · show Q0 Z p0 p1 w_ObjectClass_PROCEDURE w_ObjectKind_CLR_PROCEDURE w_ObjectClass_TRIGGER w_ObjectKind_CLR_TRIGGER w_ObjectKind_TRIGGER w_ObjectClass_TABLE w_ObjectKind_TABLE w_ObjectClass_FUNCTION w_ObjectKind_CLR_FUNCTION w_ObjectKind_PROCEDURE w_ObjectClass_TYPE w_ObjectKind_TYPE w_ObjectClass_VIEW w_ObjectKind_VIEW w_ObjectKind_FUNCTION h0 n0 _ T19.heap _
        rw [e19]
        exact ⟨rfl, N19⟩
    · refine own_go (B := s₁.setTop (mkF m 80 (LS_IIIIuu p0 p1 (2 : Int32) (1 : Int32)) [])) (fun t k => ?_) ?_
      · show Steps p.tables e below (s₁.setTop (mkF m 11 (LS_IIIuuu p0 p1 (2 : Int32)) [(.int (p1 &&& (1 : Int32)))])) _
        refine XS.ifNo X0.here hx rfl (hb hby at_11) rfl ((if0 _ _).trans (feq hc11_16).1) ?_
        show Steps p.tables e below (s₁.setTop (mkF m 14 (LS_IIIuuu p0 p1 (2 : Int32)) [])) _
        refine XS.iconst X0.here hx rfl (hb hby at_14) ?_
        show Steps p.tables e below (s₁.setTop (mkF m 15 (LS_IIIuuu p0 p1 (2 : Int32)) [(.int (1 : Int32))])) _
        refine XS.goto X0.here hx rfl (pc0 := 15) (pc' := 19) rfl (hb hby at_15) (by decide) (by decide) ?_
        show Steps p.tables e below (s₁.setTop (mkF m 19 (LS_IIIuuu p0 p1 (2 : Int32)) [(.int (1 : Int32))])) _
        refine XS.istoreN X0.here hx rfl (hb hby at_19) rfl (l' := (LS_IIIIuu p0 p1 (2 : Int32) (1 : Int32))) rfl ?_
        show Steps p.tables e below (s₁.setTop (mkF m 20 (LS_IIIIuu p0 p1 (2 : Int32) (1 : Int32)) [])) _
        refine XS.iloadN X0.here hx rfl (hb hby at_20) rfl ?_
        show Steps p.tables e below (s₁.setTop (mkF m 21 (LS_IIIIuu p0 p1 (2 : Int32) (1 : Int32)) [(.int (2 : Int32))])) _
        refine XS.ifYes X0.here hx rfl (pc0 := 21) (pc' := 47) rfl (hb hby at_21) rfl ((if0 _ _).trans (feq (by decide : ¬ ((2 : Int32) = (0 : Int32)))).2) (by decide) (by decide) ?_
        show Steps p.tables e below (s₁.setTop (mkF m 47 (LS_IIIIuu p0 p1 (2 : Int32) (1 : Int32)) [])) _
        refine XS.iloadN X0.here hx rfl (hb hby at_47) rfl ?_
        show Steps p.tables e below (s₁.setTop (mkF m 48 (LS_IIIIuu p0 p1 (2 : Int32) (1 : Int32)) [(.int (2 : Int32))])) _
        refine XS.iconst X0.here hx rfl (hb hby at_48) ?_
        show Steps p.tables e below (s₁.setTop (mkF m 49 (LS_IIIIuu p0 p1 (2 : Int32) (1 : Int32)) [(.int (1 : Int32)), (.int (2 : Int32))])) _
        refine XS.icmpYes X0.here hx rfl (pc0 := 49) (pc' := 75) rfl (hb hby at_49) rfl (feq (by decide : ¬ ((2 : Int32) = (1 : Int32)))).2 (by decide) (by decide) ?_
        show Steps p.tables e below (s₁.setTop (mkF m 75 (LS_IIIIuu p0 p1 (2 : Int32) (1 : Int32)) [])) _
        refine XS.iloadN X0.here hx rfl (hb hby at_75) rfl ?_
        show Steps p.tables e below (s₁.setTop (mkF m 76 (LS_IIIIuu p0 p1 (2 : Int32) (1 : Int32)) [(.int (2 : Int32))])) _
        refine XS.iconst X0.here hx rfl (hb hby at_76) ?_
        show Steps p.tables e below (s₁.setTop (mkF m 77 (LS_IIIIuu p0 p1 (2 : Int32) (1 : Int32)) [(.int (2 : Int32)), (.int (2 : Int32))])) _
        refine XS.icmpNo X0.here hx rfl (hb hby at_77) rfl (teq (by decide : (2 : Int32) = (2 : Int32))).2 ?_
        exact k
      obtain ⟨T20, X20, e20, st20⟩ := getS2 X0 hx hZ hown (host := "") (Or.inl (hw _ (List.mem_of_getElem? (i := 14) rfl))) Via.refl e0 S_ObjectClass_TRIGGER (g := (mkF m 80 (LS_IIIIuu p0 p1 (2 : Int32) (1 : Int32)) [])) rfl (hb hby at_80)
      refine own_go (B := T20.setTop (mkF m 83 (LS_IIIIuu p0 p1 (2 : Int32) (1 : Int32)) [(.ref w_ObjectClass_TRIGGER)])) (fun t k => st20 _ k) ?_
      refine own_go (B := T20.setTop (mkF m 89 (LS_IIIIRu p0 p1 (2 : Int32) (1 : Int32) w_ObjectClass_TRIGGER) [])) (fun t k => ?_) ?_
      · show Steps p.tables e below (T20.setTop (mkF m 83 (LS_IIIIuu p0 p1 (2 : Int32) (1 : Int32)) [(.ref w_ObjectClass_TRIGGER)])) _
        refine XS.astore X20.here hx rfl (hb hby at_83) rfl rfl (l' := (LS_IIIIRu p0 p1 (2 : Int32) (1 : Int32) w_ObjectClass_TRIGGER)) rfl ?_
        show Steps p.tables e below (T20.setTop (mkF m 85 (LS_IIIIRu p0 p1 (2 : Int32) (1 : Int32) w_ObjectClass_TRIGGER) [])) _
        refine XS.iloadN X20.here hx rfl (hb hby at_85) rfl ?_
        show Steps p.tables e below (T20.setTop (mkF m 86 (LS_IIIIRu p0 p1 (2 : Int32) (1 : Int32) w_ObjectClass_TRIGGER) [(.int (1 : Int32))])) _
        refine XS.ifNo X20.here hx rfl (hb hby at_86) rfl ((if0 _ _).trans (feq (by decide : ¬ ((1 : Int32) = (0 : Int32)))).1) ?_
        exact k
      obtain ⟨T21, X21, e21, st21⟩ := getS2 X20 hx hZ hown (host := "") (Or.inl (hw _ (List.mem_of_getElem? (i := 16) rfl))) Via.refl e20 S_ObjectKind_CLR_TRIGGER (g := (mkF m 89 (LS_IIIIRu p0 p1 (2 : Int32) (1 : Int32) w_ObjectClass_TRIGGER) [])) rfl (hb hby at_89)
      refine own_go (B := T21.setTop (mkF m 92 (LS_IIIIRu p0 p1 (2 : Int32) (1 : Int32) w_ObjectClass_TRIGGER) [(.ref w_ObjectKind_CLR_TRIGGER)])) (fun t k => st21 _ k) ?_
      refine own_go (B := T21.setTop (mkF m 152 (LS_IIIIRR p0 p1 (2 : Int32) (1 : Int32) w_ObjectClass_TRIGGER w_ObjectKind_CLR_TRIGGER) [(.int (1 : Int32)), (.ref w_ObjectClass_TRIGGER)])) (fun t k => ?_) ?_
      · show Steps p.tables e below (T21.setTop (mkF m 92 (LS_IIIIRu p0 p1 (2 : Int32) (1 : Int32) w_ObjectClass_TRIGGER) [(.ref w_ObjectKind_CLR_TRIGGER)])) _
        refine XS.goto X21.here hx rfl (pc0 := 92) (pc' := 98) rfl (hb hby at_92) (by decide) (by decide) ?_
        show Steps p.tables e below (T21.setTop (mkF m 98 (LS_IIIIRu p0 p1 (2 : Int32) (1 : Int32) w_ObjectClass_TRIGGER) [(.ref w_ObjectKind_CLR_TRIGGER)])) _
        refine XS.astore X21.here hx rfl (hb hby at_98) rfl rfl (l' := (LS_IIIIRR p0 p1 (2 : Int32) (1 : Int32) w_ObjectClass_TRIGGER w_ObjectKind_CLR_TRIGGER)) rfl ?_
        show Steps p.tables e below (T21.setTop (mkF m 100 (LS_IIIIRR p0 p1 (2 : Int32) (1 : Int32) w_ObjectClass_TRIGGER w_ObjectKind_CLR_TRIGGER) [])) _
        refine XS.goto X21.here hx rfl (pc0 := 100) (pc' := 149) rfl (hb hby at_100) (by decide) (by decide) ?_
        show Steps p.tables e below (T21.setTop (mkF m 149 (LS_IIIIRR p0 p1 (2 : Int32) (1 : Int32) w_ObjectClass_TRIGGER w_ObjectKind_CLR_TRIGGER) [])) _
        refine XS.aload X21.here hx rfl (hb hby at_149) rfl rfl ?_
        show Steps p.tables e below (T21.setTop (mkF m 151 (LS_IIIIRR p0 p1 (2 : Int32) (1 : Int32) w_ObjectClass_TRIGGER w_ObjectKind_CLR_TRIGGER) [(.ref w_ObjectClass_TRIGGER)])) _
        refine XS.iloadN X21.here hx rfl (hb hby at_151) rfl ?_
        exact k
      obtain ⟨cq22, kq22, q22a, q22b, q22c⟩ := isOf hZ e21 E_ObjectClass_TRIGGER
      obtain ⟨_, _, ⟨T22, L22, k22, n22⟩, -, X22, ⟨Lc22, hQ22, l22, y22, z22⟩, st22⟩ := X21.virtualBack hx (y := (⟨"com/example/refbound/refbound/dialect/tsql/ObjectClass", "kind", "(Z)Lcom/example/refbound/refbound/catalog/ObjectKind;"⟩ : MethodName)) (z := (⟨"com/example/refbound/refbound/dialect/tsql/ObjectClass", "kind", "(Z)Lcom/example/refbound/refbound/catalog/ObjectKind;"⟩ : MethodName)) hown (mvT hZ (hw _ (List.mem_of_getElem? (i := 7) rfl))) (mvT hZ (hw _ (List.mem_of_getElem? (i := 8) rfl))) (notFace_of_selects (args := #[]) (mvT hZ (hw _ (List.mem_of_getElem? (i := 10) rfl)))) (mvT hZ (hw _ (List.mem_of_getElem? (i := 10) rfl))) (mvT hZ (hw _ (List.mem_of_getElem? (i := 9) rfl))) (by decide) (backOf (W := 0) (rm1_1 l Z a0 hw [] w_ObjectClass_TRIGGER w_ObjectKind_CLR_TRIGGER h0 n0 Z0 F_ObjectClass_TRIGGER_external) hZ (hw _ (List.mem_of_getElem? (i := 11) rfl)) (hw _ (List.mem_of_getElem? (i := 2) rfl)) (by decide) (by decide)) q22a q22c (g := (mkF m 152 (LS_IIIIRR p0 p1 (2 : Int32) (1 : Int32) w_ObjectClass_TRIGGER w_ObjectKind_CLR_TRIGGER) [(.int (1 : Int32)), (.ref w_ObjectClass_TRIGGER)])) rfl (by rw [hml]; rfl) (Steps.refl _) (argsL := [(.int (1 : Int32))]) (rest := []) (lenOf pd__Z_Lcom_example_refbound_refbound_catalog_ObjectKind_ rfl) rfl (by show 2 * 0 + _ ≤ _; exact Nat.le_of_eq rfl) (hb hby at_152) (fun _ _ => ⟨rfl, e21, (by decide : 0 + 0 ≤ _), (by decide : 0 + 0 ≤ _)⟩)
      dsimp only [Pt.U, Pt.locs, Pt.cells, Pt.slots] at X22 l22 y22 z22 st22 hQ22
      subst l22 y22 z22
      obtain ⟨rfl, N22q, e22⟩ := hQ22
      have N22 := Fr.app N0 N22q
      refine own_go (B := T22.setTop (mkF m 155 (LS_IIIIRR p0 p1 (2 : Int32) (1 : Int32) w_ObjectClass_TRIGGER w_ObjectKind_CLR_TRIGGER) [(.ref w_ObjectKind_CLR_TRIGGER)])) (fun t k => st22.trans k) ?_
      refine own_go (B := T22.setTop (mkF m 165 (LS_IIIIRR p0 p1 (2 : Int32) (1 : Int32) w_ObjectClass_TRIGGER w_ObjectKind_CLR_TRIGGER) [(.int (1 : Int32))])) (fun t k => ?_) ?_
      · show Steps p.tables e below (T22.setTop (mkF m 155 (LS_IIIIRR p0 p1 (2 : Int32) (1 : Int32) w_ObjectClass_TRIGGER w_ObjectKind_CLR_TRIGGER) [(.ref w_ObjectKind_CLR_TRIGGER)])) _
        refine XS.aload X22.here hx rfl (hb hby at_155) rfl rfl ?_
        show Steps p.tables e below (T22.setTop (mkF m 157 (LS_IIIIRR p0 p1 (2 : Int32) (1 : Int32) w_ObjectClass_TRIGGER w_ObjectKind_CLR_TRIGGER) [(.ref w_ObjectKind_CLR_TRIGGER), (.ref w_ObjectKind_CLR_TRIGGER)])) _
        refine Jvm.RoadKit.acmp (g := (mkF m 157 (LS_IIIIRR p0 p1 (2 : Int32) (1 : Int32) w_ObjectClass_TRIGGER w_ObjectKind_CLR_TRIGGER) [(.ref w_ObjectKind_CLR_TRIGGER), (.ref w_ObjectKind_CLR_TRIGGER)])) X22 hx rfl rfl rfl (pc0 := 157) (pc' := 160) (same := true) rfl (hb hby at_157) rfl (decide_eq_true rfl) (by decide) (by decide) ?_
        show Steps p.tables e below (T22.setTop (mkF m 160 (LS_IIIIRR p0 p1 (2 : Int32) (1 : Int32) w_ObjectClass_TRIGGER w_ObjectKind_CLR_TRIGGER) [])) _
        refine XS.iconst X22.here hx rfl (hb hby at_160) ?_
        show Steps p.tables e below (T22.setTop (mkF m 161 (LS_IIIIRR p0 p1 (2 : Int32) (1 : Int32) w_ObjectClass_TRIGGER w_ObjectKind_CLR_TRIGGER) [(.int (1 : Int32))])) _
        refine XS.goto X22.here hx rfl (pc0 := 161) (pc' := 165) rfl (hb hby at_161) (by decide) (by decide) ?_
        exact k
      obtain ⟨fs, hr, hrun, hended, hW, hsame⟩ := X22.leave (v := some (.int (1 : Int32))) (fun h => by rw [Bd.returns] at h; cases h)
      refine ⟨_, _, ?_, hrun, hended, _, _, rfl, ?_, ⟨_, rfl⟩, hW, hsame.mono (by decide) (by decide)⟩
      · show Steps p.tables e below (T22.setTop (mkF m 165 (LS_IIIIRR p0 p1 (2 : Int32) (1 : Int32) w_ObjectClass_TRIGGER w_ObjectKind_CLR_TRIGGER) [(.int (1 : Int32))])) _
        exact retN X22 hx (t := .boolean) Bd.returns (by simp) (hb hby at_165) hr
      · show Q0 Z p0 p1 w_ObjectClass_PROCEDURE w_ObjectKind_CLR_PROCEDURE w_ObjectClass_TRIGGER w_ObjectKind_CLR_TRIGGER w_ObjectKind_TRIGGER w_ObjectClass_TABLE w_ObjectKind_TABLE w_ObjectClass_FUNCTION w_ObjectKind_CLR_FUNCTION w_ObjectKind_PROCEDURE w_ObjectClass_TYPE w_ObjectKind_TYPE w_ObjectClass_VIEW w_ObjectKind_VIEW w_ObjectKind_FUNCTION h0 n0 _ T22.heap _
        rw [e22]
        exact ⟨rfl, N22⟩
  · rw [hk1]
    refine own_go (B := s₁.setTop (mkF m 11 (LS_IIIuuu p0 p1 (3 : Int32)) [(.int (p1 &&& (1 : Int32)))])) (fun t k => ?_) ?_
    · show Steps p.tables e below (s₁.setTop (mkF m 7 (LS_IIuuuu p0 p1) [(.int (3 : Int32))])) _
      refine XS.istoreN X0.here hx rfl (hb hby at_7) rfl (l' := (LS_IIIuuu p0 p1 (3 : Int32))) rfl ?_
      show Steps p.tables e below (s₁.setTop (mkF m 8 (LS_IIIuuu p0 p1 (3 : Int32)) [])) _
      refine XS.iloadN X0.here hx rfl (hb hby at_8) rfl ?_
      show Steps p.tables e below (s₁.setTop (mkF m 9 (LS_IIIuuu p0 p1 (3 : Int32)) [(.int p1)])) _
      refine XS.iconst X0.here hx rfl (hb hby at_9) ?_
      show Steps p.tables e below (s₁.setTop (mkF m 10 (LS_IIIuuu p0 p1 (3 : Int32)) [(.int (1 : Int32)), (.int p1)])) _
      refine XS.iand X0.here hx rfl (hb hby at_10) rfl ?_
      exact k
    by_cases hc11_23 : (p1 &&& (1 : Int32)) = (0 : Int32)
    · refine own_go (B := s₁.setTop (mkF m 108 (LS_IIIIuu p0 p1 (3 : Int32) (0 : Int32)) [])) (fun t k => ?_) ?_
      · show Steps p.tables e below (s₁.setTop (mkF m 11 (LS_IIIuuu p0 p1 (3 : Int32)) [(.int (p1 &&& (1 : Int32)))])) _
        refine XS.ifYes X0.here hx rfl (pc0 := 11) (pc' := 18) rfl (hb hby at_11) rfl ((if0 _ _).trans (teq hc11_23).1) (by decide) (by decide) ?_
        show Steps p.tables e below (s₁.setTop (mkF m 18 (LS_IIIuuu p0 p1 (3 : Int32)) [])) _
        refine XS.iconst X0.here hx rfl (hb hby at_18) ?_
        show Steps p.tables e below (s₁.setTop (mkF m 19 (LS_IIIuuu p0 p1 (3 : Int32)) [(.int (0 : Int32))])) _
        refine XS.istoreN X0.here hx rfl (hb hby at_19) rfl (l' := (LS_IIIIuu p0 p1 (3 : Int32) (0 : Int32))) rfl ?_
        show Steps p.tables e below (s₁.setTop (mkF m 20 (LS_IIIIuu p0 p1 (3 : Int32) (0 : Int32)) [])) _
        refine XS.iloadN X0.here hx rfl (hb hby at_20) rfl ?_
        show Steps p.tables e below (s₁.setTop (mkF m 21 (LS_IIIIuu p0 p1 (3 : Int32) (0 : Int32)) [(.int (3 : Int32))])) _
        refine XS.ifYes X0.here hx rfl (pc0 := 21) (pc' := 47) rfl (hb hby at_21) rfl ((if0 _ _).trans (feq (by decide : ¬ ((3 : Int32) = (0 : Int32)))).2) (by decide) (by decide) ?_
        show Steps p.tables e below (s₁.setTop (mkF m 47 (LS_IIIIuu p0 p1 (3 : Int32) (0 : Int32)) [])) _
        refine XS.iloadN X0.here hx rfl (hb hby at_47) rfl ?_
        show Steps p.tables e below (s₁.setTop (mkF m 48 (LS_IIIIuu p0 p1 (3 : Int32) (0 : Int32)) [(.int (3 : Int32))])) _
        refine XS.iconst X0.here hx rfl (hb hby at_48) ?_
        show Steps p.tables e below (s₁.setTop (mkF m 49 (LS_IIIIuu p0 p1 (3 : Int32) (0 : Int32)) [(.int (1 : Int32)), (.int (3 : Int32))])) _
        refine XS.icmpYes X0.here hx rfl (pc0 := 49) (pc' := 75) rfl (hb hby at_49) rfl (feq (by decide : ¬ ((3 : Int32) = (1 : Int32)))).2 (by decide) (by decide) ?_
        show Steps p.tables e below (s₁.setTop (mkF m 75 (LS_IIIIuu p0 p1 (3 : Int32) (0 : Int32)) [])) _
        refine XS.iloadN X0.here hx rfl (hb hby at_75) rfl ?_
        show Steps p.tables e below (s₁.setTop (mkF m 76 (LS_IIIIuu p0 p1 (3 : Int32) (0 : Int32)) [(.int (3 : Int32))])) _
        refine XS.iconst X0.here hx rfl (hb hby at_76) ?_
        show Steps p.tables e below (s₁.setTop (mkF m 77 (LS_IIIIuu p0 p1 (3 : Int32) (0 : Int32)) [(.int (2 : Int32)), (.int (3 : Int32))])) _
        refine XS.icmpYes X0.here hx rfl (pc0 := 77) (pc' := 103) rfl (hb hby at_77) rfl (feq (by decide : ¬ ((3 : Int32) = (2 : Int32)))).2 (by decide) (by decide) ?_
        show Steps p.tables e below (s₁.setTop (mkF m 103 (LS_IIIIuu p0 p1 (3 : Int32) (0 : Int32)) [])) _
        refine XS.iloadN X0.here hx rfl (hb hby at_103) rfl ?_
        show Steps p.tables e below (s₁.setTop (mkF m 104 (LS_IIIIuu p0 p1 (3 : Int32) (0 : Int32)) [(.int (3 : Int32))])) _
        refine XS.iconst X0.here hx rfl (hb hby at_104) ?_
        show Steps p.tables e below (s₁.setTop (mkF m 105 (LS_IIIIuu p0 p1 (3 : Int32) (0 : Int32)) [(.int (3 : Int32)), (.int (3 : Int32))])) _
        refine XS.icmpNo X0.here hx rfl (hb hby at_105) rfl (teq (by decide : (3 : Int32) = (3 : Int32))).2 ?_
        exact k
      obtain ⟨T24, X24, e24, st24⟩ := getS2 X0 hx hZ hown (host := "") (Or.inl (hw _ (List.mem_of_getElem? (i := 36) rfl))) Via.refl e0 S_ObjectClass_VIEW (g := (mkF m 108 (LS_IIIIuu p0 p1 (3 : Int32) (0 : Int32)) [])) rfl (hb hby at_108)
      refine own_go (B := T24.setTop (mkF m 111 (LS_IIIIuu p0 p1 (3 : Int32) (0 : Int32)) [(.ref w_ObjectClass_VIEW)])) (fun t k => st24 _ k) ?_
      refine own_go (B := T24.setTop (mkF m 113 (LS_IIIIRu p0 p1 (3 : Int32) (0 : Int32) w_ObjectClass_VIEW) [])) (fun t k => ?_) ?_
      · show Steps p.tables e below (T24.setTop (mkF m 111 (LS_IIIIuu p0 p1 (3 : Int32) (0 : Int32)) [(.ref w_ObjectClass_VIEW)])) _
        refine XS.astore X24.here hx rfl (hb hby at_111) rfl rfl (l' := (LS_IIIIRu p0 p1 (3 : Int32) (0 : Int32) w_ObjectClass_VIEW)) rfl ?_
        exact k
      obtain ⟨T25, X25, e25, st25⟩ := getS2 X24 hx hZ hown (host := "") (Or.inl (hw _ (List.mem_of_getElem? (i := 38) rfl))) Via.refl e24 S_ObjectKind_VIEW (g := (mkF m 113 (LS_IIIIRu p0 p1 (3 : Int32) (0 : Int32) w_ObjectClass_VIEW) [])) rfl (hb hby at_113)
      refine own_go (B := T25.setTop (mkF m 116 (LS_IIIIRu p0 p1 (3 : Int32) (0 : Int32) w_ObjectClass_VIEW) [(.ref w_ObjectKind_VIEW)])) (fun t k => st25 _ k) ?_
      refine own_go (B := T25.setTop (mkF m 152 (LS_IIIIRR p0 p1 (3 : Int32) (0 : Int32) w_ObjectClass_VIEW w_ObjectKind_VIEW) [(.int (0 : Int32)), (.ref w_ObjectClass_VIEW)])) (fun t k => ?_) ?_
      · show Steps p.tables e below (T25.setTop (mkF m 116 (LS_IIIIRu p0 p1 (3 : Int32) (0 : Int32) w_ObjectClass_VIEW) [(.ref w_ObjectKind_VIEW)])) _
        refine XS.astore X25.here hx rfl (hb hby at_116) rfl rfl (l' := (LS_IIIIRR p0 p1 (3 : Int32) (0 : Int32) w_ObjectClass_VIEW w_ObjectKind_VIEW)) rfl ?_
        show Steps p.tables e below (T25.setTop (mkF m 118 (LS_IIIIRR p0 p1 (3 : Int32) (0 : Int32) w_ObjectClass_VIEW w_ObjectKind_VIEW) [])) _
        refine XS.goto X25.here hx rfl (pc0 := 118) (pc' := 149) rfl (hb hby at_118) (by decide) (by decide) ?_
        show Steps p.tables e below (T25.setTop (mkF m 149 (LS_IIIIRR p0 p1 (3 : Int32) (0 : Int32) w_ObjectClass_VIEW w_ObjectKind_VIEW) [])) _
        refine XS.aload X25.here hx rfl (hb hby at_149) rfl rfl ?_
        show Steps p.tables e below (T25.setTop (mkF m 151 (LS_IIIIRR p0 p1 (3 : Int32) (0 : Int32) w_ObjectClass_VIEW w_ObjectKind_VIEW) [(.ref w_ObjectClass_VIEW)])) _
        refine XS.iloadN X25.here hx rfl (hb hby at_151) rfl ?_
        exact k
      obtain ⟨cq26, kq26, q26a, q26b, q26c⟩ := isOf hZ e25 E_ObjectClass_VIEW
      obtain ⟨_, _, ⟨T26, L26, k26, n26⟩, -, X26, ⟨Lc26, hQ26, l26, y26, z26⟩, st26⟩ := X25.virtualBack hx (y := (⟨"com/example/refbound/refbound/dialect/tsql/ObjectClass", "kind", "(Z)Lcom/example/refbound/refbound/catalog/ObjectKind;"⟩ : MethodName)) (z := (⟨"com/example/refbound/refbound/dialect/tsql/ObjectClass", "kind", "(Z)Lcom/example/refbound/refbound/catalog/ObjectKind;"⟩ : MethodName)) hown (mvT hZ (hw _ (List.mem_of_getElem? (i := 7) rfl))) (mvT hZ (hw _ (List.mem_of_getElem? (i := 8) rfl))) (notFace_of_selects (args := #[]) (mvT hZ (hw _ (List.mem_of_getElem? (i := 10) rfl)))) (mvT hZ (hw _ (List.mem_of_getElem? (i := 10) rfl))) (mvT hZ (hw _ (List.mem_of_getElem? (i := 9) rfl))) (by decide) (backOf (W := 0) (rm1_0 l Z a0 hw [] w_ObjectClass_VIEW w_ObjectKind_VIEW h0 n0 Z0 F_ObjectClass_VIEW_written) hZ (hw _ (List.mem_of_getElem? (i := 11) rfl)) (hw _ (List.mem_of_getElem? (i := 2) rfl)) (by decide) (by decide)) q26a q26c (g := (mkF m 152 (LS_IIIIRR p0 p1 (3 : Int32) (0 : Int32) w_ObjectClass_VIEW w_ObjectKind_VIEW) [(.int (0 : Int32)), (.ref w_ObjectClass_VIEW)])) rfl (by rw [hml]; rfl) (Steps.refl _) (argsL := [(.int (0 : Int32))]) (rest := []) (lenOf pd__Z_Lcom_example_refbound_refbound_catalog_ObjectKind_ rfl) rfl (by show 2 * 0 + _ ≤ _; exact Nat.le_of_eq rfl) (hb hby at_152) (fun _ _ => ⟨rfl, e25, (by decide : 0 + 0 ≤ _), (by decide : 0 + 0 ≤ _)⟩)
      dsimp only [Pt.U, Pt.locs, Pt.cells, Pt.slots] at X26 l26 y26 z26 st26 hQ26
      subst l26 y26 z26
      obtain ⟨rfl, N26q, e26⟩ := hQ26
      have N26 := Fr.app N0 N26q
      refine own_go (B := T26.setTop (mkF m 155 (LS_IIIIRR p0 p1 (3 : Int32) (0 : Int32) w_ObjectClass_VIEW w_ObjectKind_VIEW) [(.ref w_ObjectKind_VIEW)])) (fun t k => st26.trans k) ?_
      refine own_go (B := T26.setTop (mkF m 165 (LS_IIIIRR p0 p1 (3 : Int32) (0 : Int32) w_ObjectClass_VIEW w_ObjectKind_VIEW) [(.int (1 : Int32))])) (fun t k => ?_) ?_
      · show Steps p.tables e below (T26.setTop (mkF m 155 (LS_IIIIRR p0 p1 (3 : Int32) (0 : Int32) w_ObjectClass_VIEW w_ObjectKind_VIEW) [(.ref w_ObjectKind_VIEW)])) _
        refine XS.aload X26.here hx rfl (hb hby at_155) rfl rfl ?_
        show Steps p.tables e below (T26.setTop (mkF m 157 (LS_IIIIRR p0 p1 (3 : Int32) (0 : Int32) w_ObjectClass_VIEW w_ObjectKind_VIEW) [(.ref w_ObjectKind_VIEW), (.ref w_ObjectKind_VIEW)])) _
        refine Jvm.RoadKit.acmp (g := (mkF m 157 (LS_IIIIRR p0 p1 (3 : Int32) (0 : Int32) w_ObjectClass_VIEW w_ObjectKind_VIEW) [(.ref w_ObjectKind_VIEW), (.ref w_ObjectKind_VIEW)])) X26 hx rfl rfl rfl (pc0 := 157) (pc' := 160) (same := true) rfl (hb hby at_157) rfl (decide_eq_true rfl) (by decide) (by decide) ?_
        show Steps p.tables e below (T26.setTop (mkF m 160 (LS_IIIIRR p0 p1 (3 : Int32) (0 : Int32) w_ObjectClass_VIEW w_ObjectKind_VIEW) [])) _
        refine XS.iconst X26.here hx rfl (hb hby at_160) ?_
        show Steps p.tables e below (T26.setTop (mkF m 161 (LS_IIIIRR p0 p1 (3 : Int32) (0 : Int32) w_ObjectClass_VIEW w_ObjectKind_VIEW) [(.int (1 : Int32))])) _
        refine XS.goto X26.here hx rfl (pc0 := 161) (pc' := 165) rfl (hb hby at_161) (by decide) (by decide) ?_
        exact k
      obtain ⟨fs, hr, hrun, hended, hW, hsame⟩ := X26.leave (v := some (.int (1 : Int32))) (fun h => by rw [Bd.returns] at h; cases h)
      refine ⟨_, _, ?_, hrun, hended, _, _, rfl, ?_, ⟨_, rfl⟩, hW, hsame.mono (by decide) (by decide)⟩
      · show Steps p.tables e below (T26.setTop (mkF m 165 (LS_IIIIRR p0 p1 (3 : Int32) (0 : Int32) w_ObjectClass_VIEW w_ObjectKind_VIEW) [(.int (1 : Int32))])) _
        exact retN X26 hx (t := .boolean) Bd.returns (by simp) (hb hby at_165) hr
      · show Q0 Z p0 p1 w_ObjectClass_PROCEDURE w_ObjectKind_CLR_PROCEDURE w_ObjectClass_TRIGGER w_ObjectKind_CLR_TRIGGER w_ObjectKind_TRIGGER w_ObjectClass_TABLE w_ObjectKind_TABLE w_ObjectClass_FUNCTION w_ObjectKind_CLR_FUNCTION w_ObjectKind_PROCEDURE w_ObjectClass_TYPE w_ObjectKind_TYPE w_ObjectClass_VIEW w_ObjectKind_VIEW w_ObjectKind_FUNCTION h0 n0 _ T26.heap _
        rw [e26]
        exact ⟨rfl, N26⟩
    · refine own_go (B := s₁.setTop (mkF m 108 (LS_IIIIuu p0 p1 (3 : Int32) (1 : Int32)) [])) (fun t k => ?_) ?_
      · show Steps p.tables e below (s₁.setTop (mkF m 11 (LS_IIIuuu p0 p1 (3 : Int32)) [(.int (p1 &&& (1 : Int32)))])) _
        refine XS.ifNo X0.here hx rfl (hb hby at_11) rfl ((if0 _ _).trans (feq hc11_23).1) ?_
        show Steps p.tables e below (s₁.setTop (mkF m 14 (LS_IIIuuu p0 p1 (3 : Int32)) [])) _
        refine XS.iconst X0.here hx rfl (hb hby at_14) ?_
        show Steps p.tables e below (s₁.setTop (mkF m 15 (LS_IIIuuu p0 p1 (3 : Int32)) [(.int (1 : Int32))])) _
        refine XS.goto X0.here hx rfl (pc0 := 15) (pc' := 19) rfl (hb hby at_15) (by decide) (by decide) ?_
        show Steps p.tables e below (s₁.setTop (mkF m 19 (LS_IIIuuu p0 p1 (3 : Int32)) [(.int (1 : Int32))])) _
        refine XS.istoreN X0.here hx rfl (hb hby at_19) rfl (l' := (LS_IIIIuu p0 p1 (3 : Int32) (1 : Int32))) rfl ?_
        show Steps p.tables e below (s₁.setTop (mkF m 20 (LS_IIIIuu p0 p1 (3 : Int32) (1 : Int32)) [])) _
        refine XS.iloadN X0.here hx rfl (hb hby at_20) rfl ?_
        show Steps p.tables e below (s₁.setTop (mkF m 21 (LS_IIIIuu p0 p1 (3 : Int32) (1 : Int32)) [(.int (3 : Int32))])) _
        refine XS.ifYes X0.here hx rfl (pc0 := 21) (pc' := 47) rfl (hb hby at_21) rfl ((if0 _ _).trans (feq (by decide : ¬ ((3 : Int32) = (0 : Int32)))).2) (by decide) (by decide) ?_
        show Steps p.tables e below (s₁.setTop (mkF m 47 (LS_IIIIuu p0 p1 (3 : Int32) (1 : Int32)) [])) _
        refine XS.iloadN X0.here hx rfl (hb hby at_47) rfl ?_
        show Steps p.tables e below (s₁.setTop (mkF m 48 (LS_IIIIuu p0 p1 (3 : Int32) (1 : Int32)) [(.int (3 : Int32))])) _
        refine XS.iconst X0.here hx rfl (hb hby at_48) ?_
        show Steps p.tables e below (s₁.setTop (mkF m 49 (LS_IIIIuu p0 p1 (3 : Int32) (1 : Int32)) [(.int (1 : Int32)), (.int (3 : Int32))])) _
        refine XS.icmpYes X0.here hx rfl (pc0 := 49) (pc' := 75) rfl (hb hby at_49) rfl (feq (by decide : ¬ ((3 : Int32) = (1 : Int32)))).2 (by decide) (by decide) ?_
        show Steps p.tables e below (s₁.setTop (mkF m 75 (LS_IIIIuu p0 p1 (3 : Int32) (1 : Int32)) [])) _
        refine XS.iloadN X0.here hx rfl (hb hby at_75) rfl ?_
        show Steps p.tables e below (s₁.setTop (mkF m 76 (LS_IIIIuu p0 p1 (3 : Int32) (1 : Int32)) [(.int (3 : Int32))])) _
        refine XS.iconst X0.here hx rfl (hb hby at_76) ?_
        show Steps p.tables e below (s₁.setTop (mkF m 77 (LS_IIIIuu p0 p1 (3 : Int32) (1 : Int32)) [(.int (2 : Int32)), (.int (3 : Int32))])) _
        refine XS.icmpYes X0.here hx rfl (pc0 := 77) (pc' := 103) rfl (hb hby at_77) rfl (feq (by decide : ¬ ((3 : Int32) = (2 : Int32)))).2 (by decide) (by decide) ?_
        show Steps p.tables e below (s₁.setTop (mkF m 103 (LS_IIIIuu p0 p1 (3 : Int32) (1 : Int32)) [])) _
        refine XS.iloadN X0.here hx rfl (hb hby at_103) rfl ?_
        show Steps p.tables e below (s₁.setTop (mkF m 104 (LS_IIIIuu p0 p1 (3 : Int32) (1 : Int32)) [(.int (3 : Int32))])) _
        refine XS.iconst X0.here hx rfl (hb hby at_104) ?_
        show Steps p.tables e below (s₁.setTop (mkF m 105 (LS_IIIIuu p0 p1 (3 : Int32) (1 : Int32)) [(.int (3 : Int32)), (.int (3 : Int32))])) _
        refine XS.icmpNo X0.here hx rfl (hb hby at_105) rfl (teq (by decide : (3 : Int32) = (3 : Int32))).2 ?_
        exact k
      obtain ⟨T27, X27, e27, st27⟩ := getS2 X0 hx hZ hown (host := "") (Or.inl (hw _ (List.mem_of_getElem? (i := 36) rfl))) Via.refl e0 S_ObjectClass_VIEW (g := (mkF m 108 (LS_IIIIuu p0 p1 (3 : Int32) (1 : Int32)) [])) rfl (hb hby at_108)
      refine own_go (B := T27.setTop (mkF m 111 (LS_IIIIuu p0 p1 (3 : Int32) (1 : Int32)) [(.ref w_ObjectClass_VIEW)])) (fun t k => st27 _ k) ?_
      refine own_go (B := T27.setTop (mkF m 113 (LS_IIIIRu p0 p1 (3 : Int32) (1 : Int32) w_ObjectClass_VIEW) [])) (fun t k => ?_) ?_
      · show Steps p.tables e below (T27.setTop (mkF m 111 (LS_IIIIuu p0 p1 (3 : Int32) (1 : Int32)) [(.ref w_ObjectClass_VIEW)])) _
        refine XS.astore X27.here hx rfl (hb hby at_111) rfl rfl (l' := (LS_IIIIRu p0 p1 (3 : Int32) (1 : Int32) w_ObjectClass_VIEW)) rfl ?_
        exact k
      obtain ⟨T28, X28, e28, st28⟩ := getS2 X27 hx hZ hown (host := "") (Or.inl (hw _ (List.mem_of_getElem? (i := 38) rfl))) Via.refl e27 S_ObjectKind_VIEW (g := (mkF m 113 (LS_IIIIRu p0 p1 (3 : Int32) (1 : Int32) w_ObjectClass_VIEW) [])) rfl (hb hby at_113)
      refine own_go (B := T28.setTop (mkF m 116 (LS_IIIIRu p0 p1 (3 : Int32) (1 : Int32) w_ObjectClass_VIEW) [(.ref w_ObjectKind_VIEW)])) (fun t k => st28 _ k) ?_
      refine own_go (B := T28.setTop (mkF m 152 (LS_IIIIRR p0 p1 (3 : Int32) (1 : Int32) w_ObjectClass_VIEW w_ObjectKind_VIEW) [(.int (1 : Int32)), (.ref w_ObjectClass_VIEW)])) (fun t k => ?_) ?_
      · show Steps p.tables e below (T28.setTop (mkF m 116 (LS_IIIIRu p0 p1 (3 : Int32) (1 : Int32) w_ObjectClass_VIEW) [(.ref w_ObjectKind_VIEW)])) _
        refine XS.astore X28.here hx rfl (hb hby at_116) rfl rfl (l' := (LS_IIIIRR p0 p1 (3 : Int32) (1 : Int32) w_ObjectClass_VIEW w_ObjectKind_VIEW)) rfl ?_
        show Steps p.tables e below (T28.setTop (mkF m 118 (LS_IIIIRR p0 p1 (3 : Int32) (1 : Int32) w_ObjectClass_VIEW w_ObjectKind_VIEW) [])) _
        refine XS.goto X28.here hx rfl (pc0 := 118) (pc' := 149) rfl (hb hby at_118) (by decide) (by decide) ?_
        show Steps p.tables e below (T28.setTop (mkF m 149 (LS_IIIIRR p0 p1 (3 : Int32) (1 : Int32) w_ObjectClass_VIEW w_ObjectKind_VIEW) [])) _
        refine XS.aload X28.here hx rfl (hb hby at_149) rfl rfl ?_
        show Steps p.tables e below (T28.setTop (mkF m 151 (LS_IIIIRR p0 p1 (3 : Int32) (1 : Int32) w_ObjectClass_VIEW w_ObjectKind_VIEW) [(.ref w_ObjectClass_VIEW)])) _
        refine XS.iloadN X28.here hx rfl (hb hby at_151) rfl ?_
        exact k
      obtain ⟨cq29, kq29, q29a, q29b, q29c⟩ := isOf hZ e28 E_ObjectClass_VIEW
      obtain ⟨_, _, ⟨T29, L29, k29, n29⟩, -, X29, ⟨Lc29, hQ29, l29, y29, z29⟩, st29⟩ := X28.virtualBack hx (y := (⟨"com/example/refbound/refbound/dialect/tsql/ObjectClass", "kind", "(Z)Lcom/example/refbound/refbound/catalog/ObjectKind;"⟩ : MethodName)) (z := (⟨"com/example/refbound/refbound/dialect/tsql/ObjectClass", "kind", "(Z)Lcom/example/refbound/refbound/catalog/ObjectKind;"⟩ : MethodName)) hown (mvT hZ (hw _ (List.mem_of_getElem? (i := 7) rfl))) (mvT hZ (hw _ (List.mem_of_getElem? (i := 8) rfl))) (notFace_of_selects (args := #[]) (mvT hZ (hw _ (List.mem_of_getElem? (i := 10) rfl)))) (mvT hZ (hw _ (List.mem_of_getElem? (i := 10) rfl))) (mvT hZ (hw _ (List.mem_of_getElem? (i := 9) rfl))) (by decide) (backOf (W := 0) (rm1_1 l Z a0 hw [] w_ObjectClass_VIEW w_ObjectKind_VIEW h0 n0 Z0 F_ObjectClass_VIEW_external) hZ (hw _ (List.mem_of_getElem? (i := 11) rfl)) (hw _ (List.mem_of_getElem? (i := 2) rfl)) (by decide) (by decide)) q29a q29c (g := (mkF m 152 (LS_IIIIRR p0 p1 (3 : Int32) (1 : Int32) w_ObjectClass_VIEW w_ObjectKind_VIEW) [(.int (1 : Int32)), (.ref w_ObjectClass_VIEW)])) rfl (by rw [hml]; rfl) (Steps.refl _) (argsL := [(.int (1 : Int32))]) (rest := []) (lenOf pd__Z_Lcom_example_refbound_refbound_catalog_ObjectKind_ rfl) rfl (by show 2 * 0 + _ ≤ _; exact Nat.le_of_eq rfl) (hb hby at_152) (fun _ _ => ⟨rfl, e28, (by decide : 0 + 0 ≤ _), (by decide : 0 + 0 ≤ _)⟩)
      dsimp only [Pt.U, Pt.locs, Pt.cells, Pt.slots] at X29 l29 y29 z29 st29 hQ29
      subst l29 y29 z29
      obtain ⟨rfl, N29q, e29⟩ := hQ29
      have N29 := Fr.app N0 N29q
      refine own_go (B := T29.setTop (mkF m 155 (LS_IIIIRR p0 p1 (3 : Int32) (1 : Int32) w_ObjectClass_VIEW w_ObjectKind_VIEW) [(.ref w_ObjectKind_VIEW)])) (fun t k => st29.trans k) ?_
      refine own_go (B := T29.setTop (mkF m 165 (LS_IIIIRR p0 p1 (3 : Int32) (1 : Int32) w_ObjectClass_VIEW w_ObjectKind_VIEW) [(.int (1 : Int32))])) (fun t k => ?_) ?_
      · show Steps p.tables e below (T29.setTop (mkF m 155 (LS_IIIIRR p0 p1 (3 : Int32) (1 : Int32) w_ObjectClass_VIEW w_ObjectKind_VIEW) [(.ref w_ObjectKind_VIEW)])) _
        refine XS.aload X29.here hx rfl (hb hby at_155) rfl rfl ?_
        show Steps p.tables e below (T29.setTop (mkF m 157 (LS_IIIIRR p0 p1 (3 : Int32) (1 : Int32) w_ObjectClass_VIEW w_ObjectKind_VIEW) [(.ref w_ObjectKind_VIEW), (.ref w_ObjectKind_VIEW)])) _
        refine Jvm.RoadKit.acmp (g := (mkF m 157 (LS_IIIIRR p0 p1 (3 : Int32) (1 : Int32) w_ObjectClass_VIEW w_ObjectKind_VIEW) [(.ref w_ObjectKind_VIEW), (.ref w_ObjectKind_VIEW)])) X29 hx rfl rfl rfl (pc0 := 157) (pc' := 160) (same := true) rfl (hb hby at_157) rfl (decide_eq_true rfl) (by decide) (by decide) ?_
        show Steps p.tables e below (T29.setTop (mkF m 160 (LS_IIIIRR p0 p1 (3 : Int32) (1 : Int32) w_ObjectClass_VIEW w_ObjectKind_VIEW) [])) _
        refine XS.iconst X29.here hx rfl (hb hby at_160) ?_
        show Steps p.tables e below (T29.setTop (mkF m 161 (LS_IIIIRR p0 p1 (3 : Int32) (1 : Int32) w_ObjectClass_VIEW w_ObjectKind_VIEW) [(.int (1 : Int32))])) _
        refine XS.goto X29.here hx rfl (pc0 := 161) (pc' := 165) rfl (hb hby at_161) (by decide) (by decide) ?_
        exact k
      obtain ⟨fs, hr, hrun, hended, hW, hsame⟩ := X29.leave (v := some (.int (1 : Int32))) (fun h => by rw [Bd.returns] at h; cases h)
      refine ⟨_, _, ?_, hrun, hended, _, _, rfl, ?_, ⟨_, rfl⟩, hW, hsame.mono (by decide) (by decide)⟩
      · show Steps p.tables e below (T29.setTop (mkF m 165 (LS_IIIIRR p0 p1 (3 : Int32) (1 : Int32) w_ObjectClass_VIEW w_ObjectKind_VIEW) [(.int (1 : Int32))])) _
        exact retN X29 hx (t := .boolean) Bd.returns (by simp) (hb hby at_165) hr
      · show Q0 Z p0 p1 w_ObjectClass_PROCEDURE w_ObjectKind_CLR_PROCEDURE w_ObjectClass_TRIGGER w_ObjectKind_CLR_TRIGGER w_ObjectKind_TRIGGER w_ObjectClass_TABLE w_ObjectKind_TABLE w_ObjectClass_FUNCTION w_ObjectKind_CLR_FUNCTION w_ObjectKind_PROCEDURE w_ObjectClass_TYPE w_ObjectKind_TYPE w_ObjectClass_VIEW w_ObjectKind_VIEW w_ObjectKind_FUNCTION h0 n0 _ T29.heap _
        rw [e29]
        exact ⟨rfl, N29⟩
  · rw [hk1]
    refine own_go (B := s₁.setTop (mkF m 11 (LS_IIIuuu p0 p1 (4 : Int32)) [(.int (p1 &&& (1 : Int32)))])) (fun t k => ?_) ?_
    · show Steps p.tables e below (s₁.setTop (mkF m 7 (LS_IIuuuu p0 p1) [(.int (4 : Int32))])) _
      refine XS.istoreN X0.here hx rfl (hb hby at_7) rfl (l' := (LS_IIIuuu p0 p1 (4 : Int32))) rfl ?_
      show Steps p.tables e below (s₁.setTop (mkF m 8 (LS_IIIuuu p0 p1 (4 : Int32)) [])) _
      refine XS.iloadN X0.here hx rfl (hb hby at_8) rfl ?_
      show Steps p.tables e below (s₁.setTop (mkF m 9 (LS_IIIuuu p0 p1 (4 : Int32)) [(.int p1)])) _
      refine XS.iconst X0.here hx rfl (hb hby at_9) ?_
      show Steps p.tables e below (s₁.setTop (mkF m 10 (LS_IIIuuu p0 p1 (4 : Int32)) [(.int (1 : Int32)), (.int p1)])) _
      refine XS.iand X0.here hx rfl (hb hby at_10) rfl ?_
      exact k
    by_cases hc11_30 : (p1 &&& (1 : Int32)) = (0 : Int32)
    · refine own_go (B := s₁.setTop (mkF m 126 (LS_IIIIuu p0 p1 (4 : Int32) (0 : Int32)) [])) (fun t k => ?_) ?_
      · show Steps p.tables e below (s₁.setTop (mkF m 11 (LS_IIIuuu p0 p1 (4 : Int32)) [(.int (p1 &&& (1 : Int32)))])) _
        refine XS.ifYes X0.here hx rfl (pc0 := 11) (pc' := 18) rfl (hb hby at_11) rfl ((if0 _ _).trans (teq hc11_30).1) (by decide) (by decide) ?_
        show Steps p.tables e below (s₁.setTop (mkF m 18 (LS_IIIuuu p0 p1 (4 : Int32)) [])) _
        refine XS.iconst X0.here hx rfl (hb hby at_18) ?_
        show Steps p.tables e below (s₁.setTop (mkF m 19 (LS_IIIuuu p0 p1 (4 : Int32)) [(.int (0 : Int32))])) _
        refine XS.istoreN X0.here hx rfl (hb hby at_19) rfl (l' := (LS_IIIIuu p0 p1 (4 : Int32) (0 : Int32))) rfl ?_
        show Steps p.tables e below (s₁.setTop (mkF m 20 (LS_IIIIuu p0 p1 (4 : Int32) (0 : Int32)) [])) _
        refine XS.iloadN X0.here hx rfl (hb hby at_20) rfl ?_
        show Steps p.tables e below (s₁.setTop (mkF m 21 (LS_IIIIuu p0 p1 (4 : Int32) (0 : Int32)) [(.int (4 : Int32))])) _
        refine XS.ifYes X0.here hx rfl (pc0 := 21) (pc' := 47) rfl (hb hby at_21) rfl ((if0 _ _).trans (feq (by decide : ¬ ((4 : Int32) = (0 : Int32)))).2) (by decide) (by decide) ?_
        show Steps p.tables e below (s₁.setTop (mkF m 47 (LS_IIIIuu p0 p1 (4 : Int32) (0 : Int32)) [])) _
        refine XS.iloadN X0.here hx rfl (hb hby at_47) rfl ?_
        show Steps p.tables e below (s₁.setTop (mkF m 48 (LS_IIIIuu p0 p1 (4 : Int32) (0 : Int32)) [(.int (4 : Int32))])) _
        refine XS.iconst X0.here hx rfl (hb hby at_48) ?_
        show Steps p.tables e below (s₁.setTop (mkF m 49 (LS_IIIIuu p0 p1 (4 : Int32) (0 : Int32)) [(.int (1 : Int32)), (.int (4 : Int32))])) _
        refine XS.icmpYes X0.here hx rfl (pc0 := 49) (pc' := 75) rfl (hb hby at_49) rfl (feq (by decide : ¬ ((4 : Int32) = (1 : Int32)))).2 (by decide) (by decide) ?_
        show Steps p.tables e below (s₁.setTop (mkF m 75 (LS_IIIIuu p0 p1 (4 : Int32) (0 : Int32)) [])) _
        refine XS.iloadN X0.here hx rfl (hb hby at_75) rfl ?_
        show Steps p.tables e below (s₁.setTop (mkF m 76 (LS_IIIIuu p0 p1 (4 : Int32) (0 : Int32)) [(.int (4 : Int32))])) _
        refine XS.iconst X0.here hx rfl (hb hby at_76) ?_
        show Steps p.tables e below (s₁.setTop (mkF m 77 (LS_IIIIuu p0 p1 (4 : Int32) (0 : Int32)) [(.int (2 : Int32)), (.int (4 : Int32))])) _
        refine XS.icmpYes X0.here hx rfl (pc0 := 77) (pc' := 103) rfl (hb hby at_77) rfl (feq (by decide : ¬ ((4 : Int32) = (2 : Int32)))).2 (by decide) (by decide) ?_
        show Steps p.tables e below (s₁.setTop (mkF m 103 (LS_IIIIuu p0 p1 (4 : Int32) (0 : Int32)) [])) _
        refine XS.iloadN X0.here hx rfl (hb hby at_103) rfl ?_
        show Steps p.tables e below (s₁.setTop (mkF m 104 (LS_IIIIuu p0 p1 (4 : Int32) (0 : Int32)) [(.int (4 : Int32))])) _
        refine XS.iconst X0.here hx rfl (hb hby at_104) ?_
        show Steps p.tables e below (s₁.setTop (mkF m 105 (LS_IIIIuu p0 p1 (4 : Int32) (0 : Int32)) [(.int (3 : Int32)), (.int (4 : Int32))])) _
        refine XS.icmpYes X0.here hx rfl (pc0 := 105) (pc' := 121) rfl (hb hby at_105) rfl (feq (by decide : ¬ ((4 : Int32) = (3 : Int32)))).2 (by decide) (by decide) ?_
        show Steps p.tables e below (s₁.setTop (mkF m 121 (LS_IIIIuu p0 p1 (4 : Int32) (0 : Int32)) [])) _
        refine XS.iloadN X0.here hx rfl (hb hby at_121) rfl ?_
        show Steps p.tables e below (s₁.setTop (mkF m 122 (LS_IIIIuu p0 p1 (4 : Int32) (0 : Int32)) [(.int (4 : Int32))])) _
        refine XS.iconst X0.here hx rfl (hb hby at_122) ?_
        show Steps p.tables e below (s₁.setTop (mkF m 123 (LS_IIIIuu p0 p1 (4 : Int32) (0 : Int32)) [(.int (4 : Int32)), (.int (4 : Int32))])) _
        refine XS.icmpNo X0.here hx rfl (hb hby at_123) rfl (teq (by decide : (4 : Int32) = (4 : Int32))).2 ?_
        exact k
      obtain ⟨T31, X31, e31, st31⟩ := getS2 X0 hx hZ hown (host := "") (Or.inl (hw _ (List.mem_of_getElem? (i := 22) rfl))) Via.refl e0 S_ObjectClass_TABLE (g := (mkF m 126 (LS_IIIIuu p0 p1 (4 : Int32) (0 : Int32)) [])) rfl (hb hby at_126)
      refine own_go (B := T31.setTop (mkF m 129 (LS_IIIIuu p0 p1 (4 : Int32) (0 : Int32)) [(.ref w_ObjectClass_TABLE)])) (fun t k => st31 _ k) ?_
      refine own_go (B := T31.setTop (mkF m 131 (LS_IIIIRu p0 p1 (4 : Int32) (0 : Int32) w_ObjectClass_TABLE) [])) (fun t k => ?_) ?_
      · show Steps p.tables e below (T31.setTop (mkF m 129 (LS_IIIIuu p0 p1 (4 : Int32) (0 : Int32)) [(.ref w_ObjectClass_TABLE)])) _
        refine XS.astore X31.here hx rfl (hb hby at_129) rfl rfl (l' := (LS_IIIIRu p0 p1 (4 : Int32) (0 : Int32) w_ObjectClass_TABLE)) rfl ?_
        exact k
      obtain ⟨T32, X32, e32, st32⟩ := getS2 X31 hx hZ hown (host := "") (Or.inl (hw _ (List.mem_of_getElem? (i := 24) rfl))) Via.refl e31 S_ObjectKind_TABLE (g := (mkF m 131 (LS_IIIIRu p0 p1 (4 : Int32) (0 : Int32) w_ObjectClass_TABLE) [])) rfl (hb hby at_131)
      refine own_go (B := T32.setTop (mkF m 134 (LS_IIIIRu p0 p1 (4 : Int32) (0 : Int32) w_ObjectClass_TABLE) [(.ref w_ObjectKind_TABLE)])) (fun t k => st32 _ k) ?_
      refine own_go (B := T32.setTop (mkF m 152 (LS_IIIIRR p0 p1 (4 : Int32) (0 : Int32) w_ObjectClass_TABLE w_ObjectKind_TABLE) [(.int (0 : Int32)), (.ref w_ObjectClass_TABLE)])) (fun t k => ?_) ?_
      · show Steps p.tables e below (T32.setTop (mkF m 134 (LS_IIIIRu p0 p1 (4 : Int32) (0 : Int32) w_ObjectClass_TABLE) [(.ref w_ObjectKind_TABLE)])) _
        refine XS.astore X32.here hx rfl (hb hby at_134) rfl rfl (l' := (LS_IIIIRR p0 p1 (4 : Int32) (0 : Int32) w_ObjectClass_TABLE w_ObjectKind_TABLE)) rfl ?_
        show Steps p.tables e below (T32.setTop (mkF m 136 (LS_IIIIRR p0 p1 (4 : Int32) (0 : Int32) w_ObjectClass_TABLE w_ObjectKind_TABLE) [])) _
        refine XS.goto X32.here hx rfl (pc0 := 136) (pc' := 149) rfl (hb hby at_136) (by decide) (by decide) ?_
        show Steps p.tables e below (T32.setTop (mkF m 149 (LS_IIIIRR p0 p1 (4 : Int32) (0 : Int32) w_ObjectClass_TABLE w_ObjectKind_TABLE) [])) _
        refine XS.aload X32.here hx rfl (hb hby at_149) rfl rfl ?_
        show Steps p.tables e below (T32.setTop (mkF m 151 (LS_IIIIRR p0 p1 (4 : Int32) (0 : Int32) w_ObjectClass_TABLE w_ObjectKind_TABLE) [(.ref w_ObjectClass_TABLE)])) _
        refine XS.iloadN X32.here hx rfl (hb hby at_151) rfl ?_
        exact k
      obtain ⟨cq33, kq33, q33a, q33b, q33c⟩ := isOf hZ e32 E_ObjectClass_TABLE
      obtain ⟨_, _, ⟨T33, L33, k33, n33⟩, -, X33, ⟨Lc33, hQ33, l33, y33, z33⟩, st33⟩ := X32.virtualBack hx (y := (⟨"com/example/refbound/refbound/dialect/tsql/ObjectClass", "kind", "(Z)Lcom/example/refbound/refbound/catalog/ObjectKind;"⟩ : MethodName)) (z := (⟨"com/example/refbound/refbound/dialect/tsql/ObjectClass", "kind", "(Z)Lcom/example/refbound/refbound/catalog/ObjectKind;"⟩ : MethodName)) hown (mvT hZ (hw _ (List.mem_of_getElem? (i := 7) rfl))) (mvT hZ (hw _ (List.mem_of_getElem? (i := 8) rfl))) (notFace_of_selects (args := #[]) (mvT hZ (hw _ (List.mem_of_getElem? (i := 10) rfl)))) (mvT hZ (hw _ (List.mem_of_getElem? (i := 10) rfl))) (mvT hZ (hw _ (List.mem_of_getElem? (i := 9) rfl))) (by decide) (backOf (W := 0) (rm1_0 l Z a0 hw [] w_ObjectClass_TABLE w_ObjectKind_TABLE h0 n0 Z0 F_ObjectClass_TABLE_written) hZ (hw _ (List.mem_of_getElem? (i := 11) rfl)) (hw _ (List.mem_of_getElem? (i := 2) rfl)) (by decide) (by decide)) q33a q33c (g := (mkF m 152 (LS_IIIIRR p0 p1 (4 : Int32) (0 : Int32) w_ObjectClass_TABLE w_ObjectKind_TABLE) [(.int (0 : Int32)), (.ref w_ObjectClass_TABLE)])) rfl (by rw [hml]; rfl) (Steps.refl _) (argsL := [(.int (0 : Int32))]) (rest := []) (lenOf pd__Z_Lcom_example_refbound_refbound_catalog_ObjectKind_ rfl) rfl (by show 2 * 0 + _ ≤ _; exact Nat.le_of_eq rfl) (hb hby at_152) (fun _ _ => ⟨rfl, e32, (by decide : 0 + 0 ≤ _), (by decide : 0 + 0 ≤ _)⟩)
      dsimp only [Pt.U, Pt.locs, Pt.cells, Pt.slots] at X33 l33 y33 z33 st33 hQ33
      subst l33 y33 z33
      obtain ⟨rfl, N33q, e33⟩ := hQ33
      have N33 := Fr.app N0 N33q
      refine own_go (B := T33.setTop (mkF m 155 (LS_IIIIRR p0 p1 (4 : Int32) (0 : Int32) w_ObjectClass_TABLE w_ObjectKind_TABLE) [(.ref w_ObjectKind_TABLE)])) (fun t k => st33.trans k) ?_
      refine own_go (B := T33.setTop (mkF m 165 (LS_IIIIRR p0 p1 (4 : Int32) (0 : Int32) w_ObjectClass_TABLE w_ObjectKind_TABLE) [(.int (1 : Int32))])) (fun t k => ?_) ?_
      · show Steps p.tables e below (T33.setTop (mkF m 155 (LS_IIIIRR p0 p1 (4 : Int32) (0 : Int32) w_ObjectClass_TABLE w_ObjectKind_TABLE) [(.ref w_ObjectKind_TABLE)])) _
        refine XS.aload X33.here hx rfl (hb hby at_155) rfl rfl ?_
        show Steps p.tables e below (T33.setTop (mkF m 157 (LS_IIIIRR p0 p1 (4 : Int32) (0 : Int32) w_ObjectClass_TABLE w_ObjectKind_TABLE) [(.ref w_ObjectKind_TABLE), (.ref w_ObjectKind_TABLE)])) _
        refine Jvm.RoadKit.acmp (g := (mkF m 157 (LS_IIIIRR p0 p1 (4 : Int32) (0 : Int32) w_ObjectClass_TABLE w_ObjectKind_TABLE) [(.ref w_ObjectKind_TABLE), (.ref w_ObjectKind_TABLE)])) X33 hx rfl rfl rfl (pc0 := 157) (pc' := 160) (same := true) rfl (hb hby at_157) rfl (decide_eq_true rfl) (by decide) (by decide) ?_
        show Steps p.tables e below (T33.setTop (mkF m 160 (LS_IIIIRR p0 p1 (4 : Int32) (0 : Int32) w_ObjectClass_TABLE w_ObjectKind_TABLE) [])) _
        refine XS.iconst X33.here hx rfl (hb hby at_160) ?_
        show Steps p.tables e below (T33.setTop (mkF m 161 (LS_IIIIRR p0 p1 (4 : Int32) (0 : Int32) w_ObjectClass_TABLE w_ObjectKind_TABLE) [(.int (1 : Int32))])) _
        refine XS.goto X33.here hx rfl (pc0 := 161) (pc' := 165) rfl (hb hby at_161) (by decide) (by decide) ?_
        exact k
      obtain ⟨fs, hr, hrun, hended, hW, hsame⟩ := X33.leave (v := some (.int (1 : Int32))) (fun h => by rw [Bd.returns] at h; cases h)
      refine ⟨_, _, ?_, hrun, hended, _, _, rfl, ?_, ⟨_, rfl⟩, hW, hsame.mono (by decide) (by decide)⟩
      · show Steps p.tables e below (T33.setTop (mkF m 165 (LS_IIIIRR p0 p1 (4 : Int32) (0 : Int32) w_ObjectClass_TABLE w_ObjectKind_TABLE) [(.int (1 : Int32))])) _
        exact retN X33 hx (t := .boolean) Bd.returns (by simp) (hb hby at_165) hr
      · show Q0 Z p0 p1 w_ObjectClass_PROCEDURE w_ObjectKind_CLR_PROCEDURE w_ObjectClass_TRIGGER w_ObjectKind_CLR_TRIGGER w_ObjectKind_TRIGGER w_ObjectClass_TABLE w_ObjectKind_TABLE w_ObjectClass_FUNCTION w_ObjectKind_CLR_FUNCTION w_ObjectKind_PROCEDURE w_ObjectClass_TYPE w_ObjectKind_TYPE w_ObjectClass_VIEW w_ObjectKind_VIEW w_ObjectKind_FUNCTION h0 n0 _ T33.heap _
        rw [e33]
        exact ⟨rfl, N33⟩
    · refine own_go (B := s₁.setTop (mkF m 126 (LS_IIIIuu p0 p1 (4 : Int32) (1 : Int32)) [])) (fun t k => ?_) ?_
      · show Steps p.tables e below (s₁.setTop (mkF m 11 (LS_IIIuuu p0 p1 (4 : Int32)) [(.int (p1 &&& (1 : Int32)))])) _
        refine XS.ifNo X0.here hx rfl (hb hby at_11) rfl ((if0 _ _).trans (feq hc11_30).1) ?_
        show Steps p.tables e below (s₁.setTop (mkF m 14 (LS_IIIuuu p0 p1 (4 : Int32)) [])) _
        refine XS.iconst X0.here hx rfl (hb hby at_14) ?_
        show Steps p.tables e below (s₁.setTop (mkF m 15 (LS_IIIuuu p0 p1 (4 : Int32)) [(.int (1 : Int32))])) _
        refine XS.goto X0.here hx rfl (pc0 := 15) (pc' := 19) rfl (hb hby at_15) (by decide) (by decide) ?_
        show Steps p.tables e below (s₁.setTop (mkF m 19 (LS_IIIuuu p0 p1 (4 : Int32)) [(.int (1 : Int32))])) _
        refine XS.istoreN X0.here hx rfl (hb hby at_19) rfl (l' := (LS_IIIIuu p0 p1 (4 : Int32) (1 : Int32))) rfl ?_
        show Steps p.tables e below (s₁.setTop (mkF m 20 (LS_IIIIuu p0 p1 (4 : Int32) (1 : Int32)) [])) _
        refine XS.iloadN X0.here hx rfl (hb hby at_20) rfl ?_
        show Steps p.tables e below (s₁.setTop (mkF m 21 (LS_IIIIuu p0 p1 (4 : Int32) (1 : Int32)) [(.int (4 : Int32))])) _
        refine XS.ifYes X0.here hx rfl (pc0 := 21) (pc' := 47) rfl (hb hby at_21) rfl ((if0 _ _).trans (feq (by decide : ¬ ((4 : Int32) = (0 : Int32)))).2) (by decide) (by decide) ?_
        show Steps p.tables e below (s₁.setTop (mkF m 47 (LS_IIIIuu p0 p1 (4 : Int32) (1 : Int32)) [])) _
        refine XS.iloadN X0.here hx rfl (hb hby at_47) rfl ?_
        show Steps p.tables e below (s₁.setTop (mkF m 48 (LS_IIIIuu p0 p1 (4 : Int32) (1 : Int32)) [(.int (4 : Int32))])) _
        refine XS.iconst X0.here hx rfl (hb hby at_48) ?_
        show Steps p.tables e below (s₁.setTop (mkF m 49 (LS_IIIIuu p0 p1 (4 : Int32) (1 : Int32)) [(.int (1 : Int32)), (.int (4 : Int32))])) _
        refine XS.icmpYes X0.here hx rfl (pc0 := 49) (pc' := 75) rfl (hb hby at_49) rfl (feq (by decide : ¬ ((4 : Int32) = (1 : Int32)))).2 (by decide) (by decide) ?_
        show Steps p.tables e below (s₁.setTop (mkF m 75 (LS_IIIIuu p0 p1 (4 : Int32) (1 : Int32)) [])) _
        refine XS.iloadN X0.here hx rfl (hb hby at_75) rfl ?_
        show Steps p.tables e below (s₁.setTop (mkF m 76 (LS_IIIIuu p0 p1 (4 : Int32) (1 : Int32)) [(.int (4 : Int32))])) _
        refine XS.iconst X0.here hx rfl (hb hby at_76) ?_
        show Steps p.tables e below (s₁.setTop (mkF m 77 (LS_IIIIuu p0 p1 (4 : Int32) (1 : Int32)) [(.int (2 : Int32)), (.int (4 : Int32))])) _
        refine XS.icmpYes X0.here hx rfl (pc0 := 77) (pc' := 103) rfl (hb hby at_77) rfl (feq (by decide : ¬ ((4 : Int32) = (2 : Int32)))).2 (by decide) (by decide) ?_
        show Steps p.tables e below (s₁.setTop (mkF m 103 (LS_IIIIuu p0 p1 (4 : Int32) (1 : Int32)) [])) _
        refine XS.iloadN X0.here hx rfl (hb hby at_103) rfl ?_
        show Steps p.tables e below (s₁.setTop (mkF m 104 (LS_IIIIuu p0 p1 (4 : Int32) (1 : Int32)) [(.int (4 : Int32))])) _
        refine XS.iconst X0.here hx rfl (hb hby at_104) ?_
        show Steps p.tables e below (s₁.setTop (mkF m 105 (LS_IIIIuu p0 p1 (4 : Int32) (1 : Int32)) [(.int (3 : Int32)), (.int (4 : Int32))])) _
        refine XS.icmpYes X0.here hx rfl (pc0 := 105) (pc' := 121) rfl (hb hby at_105) rfl (feq (by decide : ¬ ((4 : Int32) = (3 : Int32)))).2 (by decide) (by decide) ?_
        show Steps p.tables e below (s₁.setTop (mkF m 121 (LS_IIIIuu p0 p1 (4 : Int32) (1 : Int32)) [])) _
        refine XS.iloadN X0.here hx rfl (hb hby at_121) rfl ?_
        show Steps p.tables e below (s₁.setTop (mkF m 122 (LS_IIIIuu p0 p1 (4 : Int32) (1 : Int32)) [(.int (4 : Int32))])) _
        refine XS.iconst X0.here hx rfl (hb hby at_122) ?_
        show Steps p.tables e below (s₁.setTop (mkF m 123 (LS_IIIIuu p0 p1 (4 : Int32) (1 : Int32)) [(.int (4 : Int32)), (.int (4 : Int32))])) _
        refine XS.icmpNo X0.here hx rfl (hb hby at_123) rfl (teq (by decide : (4 : Int32) = (4 : Int32))).2 ?_
        exact k
      obtain ⟨T34, X34, e34, st34⟩ := getS2 X0 hx hZ hown (host := "") (Or.inl (hw _ (List.mem_of_getElem? (i := 22) rfl))) Via.refl e0 S_ObjectClass_TABLE (g := (mkF m 126 (LS_IIIIuu p0 p1 (4 : Int32) (1 : Int32)) [])) rfl (hb hby at_126)
      refine own_go (B := T34.setTop (mkF m 129 (LS_IIIIuu p0 p1 (4 : Int32) (1 : Int32)) [(.ref w_ObjectClass_TABLE)])) (fun t k => st34 _ k) ?_
      refine own_go (B := T34.setTop (mkF m 131 (LS_IIIIRu p0 p1 (4 : Int32) (1 : Int32) w_ObjectClass_TABLE) [])) (fun t k => ?_) ?_
      · show Steps p.tables e below (T34.setTop (mkF m 129 (LS_IIIIuu p0 p1 (4 : Int32) (1 : Int32)) [(.ref w_ObjectClass_TABLE)])) _
        refine XS.astore X34.here hx rfl (hb hby at_129) rfl rfl (l' := (LS_IIIIRu p0 p1 (4 : Int32) (1 : Int32) w_ObjectClass_TABLE)) rfl ?_
        exact k
      obtain ⟨T35, X35, e35, st35⟩ := getS2 X34 hx hZ hown (host := "") (Or.inl (hw _ (List.mem_of_getElem? (i := 24) rfl))) Via.refl e34 S_ObjectKind_TABLE (g := (mkF m 131 (LS_IIIIRu p0 p1 (4 : Int32) (1 : Int32) w_ObjectClass_TABLE) [])) rfl (hb hby at_131)
      refine own_go (B := T35.setTop (mkF m 134 (LS_IIIIRu p0 p1 (4 : Int32) (1 : Int32) w_ObjectClass_TABLE) [(.ref w_ObjectKind_TABLE)])) (fun t k => st35 _ k) ?_
      refine own_go (B := T35.setTop (mkF m 152 (LS_IIIIRR p0 p1 (4 : Int32) (1 : Int32) w_ObjectClass_TABLE w_ObjectKind_TABLE) [(.int (1 : Int32)), (.ref w_ObjectClass_TABLE)])) (fun t k => ?_) ?_
      · show Steps p.tables e below (T35.setTop (mkF m 134 (LS_IIIIRu p0 p1 (4 : Int32) (1 : Int32) w_ObjectClass_TABLE) [(.ref w_ObjectKind_TABLE)])) _
        refine XS.astore X35.here hx rfl (hb hby at_134) rfl rfl (l' := (LS_IIIIRR p0 p1 (4 : Int32) (1 : Int32) w_ObjectClass_TABLE w_ObjectKind_TABLE)) rfl ?_
        show Steps p.tables e below (T35.setTop (mkF m 136 (LS_IIIIRR p0 p1 (4 : Int32) (1 : Int32) w_ObjectClass_TABLE w_ObjectKind_TABLE) [])) _
        refine XS.goto X35.here hx rfl (pc0 := 136) (pc' := 149) rfl (hb hby at_136) (by decide) (by decide) ?_
        show Steps p.tables e below (T35.setTop (mkF m 149 (LS_IIIIRR p0 p1 (4 : Int32) (1 : Int32) w_ObjectClass_TABLE w_ObjectKind_TABLE) [])) _
        refine XS.aload X35.here hx rfl (hb hby at_149) rfl rfl ?_
        show Steps p.tables e below (T35.setTop (mkF m 151 (LS_IIIIRR p0 p1 (4 : Int32) (1 : Int32) w_ObjectClass_TABLE w_ObjectKind_TABLE) [(.ref w_ObjectClass_TABLE)])) _
        refine XS.iloadN X35.here hx rfl (hb hby at_151) rfl ?_
        exact k
      obtain ⟨cq36, kq36, q36a, q36b, q36c⟩ := isOf hZ e35 E_ObjectClass_TABLE
      obtain ⟨_, _, ⟨T36, L36, k36, n36⟩, -, X36, ⟨Lc36, hQ36, l36, y36, z36⟩, st36⟩ := X35.virtualBack hx (y := (⟨"com/example/refbound/refbound/dialect/tsql/ObjectClass", "kind", "(Z)Lcom/example/refbound/refbound/catalog/ObjectKind;"⟩ : MethodName)) (z := (⟨"com/example/refbound/refbound/dialect/tsql/ObjectClass", "kind", "(Z)Lcom/example/refbound/refbound/catalog/ObjectKind;"⟩ : MethodName)) hown (mvT hZ (hw _ (List.mem_of_getElem? (i := 7) rfl))) (mvT hZ (hw _ (List.mem_of_getElem? (i := 8) rfl))) (notFace_of_selects (args := #[]) (mvT hZ (hw _ (List.mem_of_getElem? (i := 10) rfl)))) (mvT hZ (hw _ (List.mem_of_getElem? (i := 10) rfl))) (mvT hZ (hw _ (List.mem_of_getElem? (i := 9) rfl))) (by decide) (backOf (W := 0) (rm1_1 l Z a0 hw [] w_ObjectClass_TABLE w_ObjectKind_TABLE h0 n0 Z0 F_ObjectClass_TABLE_external) hZ (hw _ (List.mem_of_getElem? (i := 11) rfl)) (hw _ (List.mem_of_getElem? (i := 2) rfl)) (by decide) (by decide)) q36a q36c (g := (mkF m 152 (LS_IIIIRR p0 p1 (4 : Int32) (1 : Int32) w_ObjectClass_TABLE w_ObjectKind_TABLE) [(.int (1 : Int32)), (.ref w_ObjectClass_TABLE)])) rfl (by rw [hml]; rfl) (Steps.refl _) (argsL := [(.int (1 : Int32))]) (rest := []) (lenOf pd__Z_Lcom_example_refbound_refbound_catalog_ObjectKind_ rfl) rfl (by show 2 * 0 + _ ≤ _; exact Nat.le_of_eq rfl) (hb hby at_152) (fun _ _ => ⟨rfl, e35, (by decide : 0 + 0 ≤ _), (by decide : 0 + 0 ≤ _)⟩)
      dsimp only [Pt.U, Pt.locs, Pt.cells, Pt.slots] at X36 l36 y36 z36 st36 hQ36
      subst l36 y36 z36
      obtain ⟨rfl, N36q, e36⟩ := hQ36
      have N36 := Fr.app N0 N36q
      refine own_go (B := T36.setTop (mkF m 155 (LS_IIIIRR p0 p1 (4 : Int32) (1 : Int32) w_ObjectClass_TABLE w_ObjectKind_TABLE) [(.ref w_ObjectKind_TABLE)])) (fun t k => st36.trans k) ?_
      refine own_go (B := T36.setTop (mkF m 165 (LS_IIIIRR p0 p1 (4 : Int32) (1 : Int32) w_ObjectClass_TABLE w_ObjectKind_TABLE) [(.int (1 : Int32))])) (fun t k => ?_) ?_
      · show Steps p.tables e below (T36.setTop (mkF m 155 (LS_IIIIRR p0 p1 (4 : Int32) (1 : Int32) w_ObjectClass_TABLE w_ObjectKind_TABLE) [(.ref w_ObjectKind_TABLE)])) _
        refine XS.aload X36.here hx rfl (hb hby at_155) rfl rfl ?_
        show Steps p.tables e below (T36.setTop (mkF m 157 (LS_IIIIRR p0 p1 (4 : Int32) (1 : Int32) w_ObjectClass_TABLE w_ObjectKind_TABLE) [(.ref w_ObjectKind_TABLE), (.ref w_ObjectKind_TABLE)])) _
        refine Jvm.RoadKit.acmp (g := (mkF m 157 (LS_IIIIRR p0 p1 (4 : Int32) (1 : Int32) w_ObjectClass_TABLE w_ObjectKind_TABLE) [(.ref w_ObjectKind_TABLE), (.ref w_ObjectKind_TABLE)])) X36 hx rfl rfl rfl (pc0 := 157) (pc' := 160) (same := true) rfl (hb hby at_157) rfl (decide_eq_true rfl) (by decide) (by decide) ?_
        show Steps p.tables e below (T36.setTop (mkF m 160 (LS_IIIIRR p0 p1 (4 : Int32) (1 : Int32) w_ObjectClass_TABLE w_ObjectKind_TABLE) [])) _
        refine XS.iconst X36.here hx rfl (hb hby at_160) ?_
        show Steps p.tables e below (T36.setTop (mkF m 161 (LS_IIIIRR p0 p1 (4 : Int32) (1 : Int32) w_ObjectClass_TABLE w_ObjectKind_TABLE) [(.int (1 : Int32))])) _
        refine XS.goto X36.here hx rfl (pc0 := 161) (pc' := 165) rfl (hb hby at_161) (by decide) (by decide) ?_
        exact k
      obtain ⟨fs, hr, hrun, hended, hW, hsame⟩ := X36.leave (v := some (.int (1 : Int32))) (fun h => by rw [Bd.returns] at h; cases h)
      refine ⟨_, _, ?_, hrun, hended, _, _, rfl, ?_, ⟨_, rfl⟩, hW, hsame.mono (by decide) (by decide)⟩
      · show Steps p.tables e below (T36.setTop (mkF m 165 (LS_IIIIRR p0 p1 (4 : Int32) (1 : Int32) w_ObjectClass_TABLE w_ObjectKind_TABLE) [(.int (1 : Int32))])) _
        exact retN X36 hx (t := .boolean) Bd.returns (by simp) (hb hby at_165) hr
      · show Q0 Z p0 p1 w_ObjectClass_PROCEDURE w_ObjectKind_CLR_PROCEDURE w_ObjectClass_TRIGGER w_ObjectKind_CLR_TRIGGER w_ObjectKind_TRIGGER w_ObjectClass_TABLE w_ObjectKind_TABLE w_ObjectClass_FUNCTION w_ObjectKind_CLR_FUNCTION w_ObjectKind_PROCEDURE w_ObjectClass_TYPE w_ObjectKind_TYPE w_ObjectClass_VIEW w_ObjectKind_VIEW w_ObjectKind_FUNCTION h0 n0 _ T36.heap _
        rw [e36]
        exact ⟨rfl, N36⟩
  · rw [hk1]
    refine own_go (B := s₁.setTop (mkF m 11 (LS_IIIuuu p0 p1 (5 : Int32)) [(.int (p1 &&& (1 : Int32)))])) (fun t k => ?_) ?_
    · show Steps p.tables e below (s₁.setTop (mkF m 7 (LS_IIuuuu p0 p1) [(.int (5 : Int32))])) _
      refine XS.istoreN X0.here hx rfl (hb hby at_7) rfl (l' := (LS_IIIuuu p0 p1 (5 : Int32))) rfl ?_
      show Steps p.tables e below (s₁.setTop (mkF m 8 (LS_IIIuuu p0 p1 (5 : Int32)) [])) _
      refine XS.iloadN X0.here hx rfl (hb hby at_8) rfl ?_
      show Steps p.tables e below (s₁.setTop (mkF m 9 (LS_IIIuuu p0 p1 (5 : Int32)) [(.int p1)])) _
      refine XS.iconst X0.here hx rfl (hb hby at_9) ?_
      show Steps p.tables e below (s₁.setTop (mkF m 10 (LS_IIIuuu p0 p1 (5 : Int32)) [(.int (1 : Int32)), (.int p1)])) _
      refine XS.iand X0.here hx rfl (hb hby at_10) rfl ?_
      exact k
    by_cases hc11_37 : (p1 &&& (1 : Int32)) = (0 : Int32)
    · refine own_go (B := s₁.setTop (mkF m 139 (LS_IIIIuu p0 p1 (5 : Int32) (0 : Int32)) [])) (fun t k => ?_) ?_
      · show Steps p.tables e below (s₁.setTop (mkF m 11 (LS_IIIuuu p0 p1 (5 : Int32)) [(.int (p1 &&& (1 : Int32)))])) _
        refine XS.ifYes X0.here hx rfl (pc0 := 11) (pc' := 18) rfl (hb hby at_11) rfl ((if0 _ _).trans (teq hc11_37).1) (by decide) (by decide) ?_
        show Steps p.tables e below (s₁.setTop (mkF m 18 (LS_IIIuuu p0 p1 (5 : Int32)) [])) _
        refine XS.iconst X0.here hx rfl (hb hby at_18) ?_
        show Steps p.tables e below (s₁.setTop (mkF m 19 (LS_IIIuuu p0 p1 (5 : Int32)) [(.int (0 : Int32))])) _
        refine XS.istoreN X0.here hx rfl (hb hby at_19) rfl (l' := (LS_IIIIuu p0 p1 (5 : Int32) (0 : Int32))) rfl ?_
        show Steps p.tables e below (s₁.setTop (mkF m 20 (LS_IIIIuu p0 p1 (5 : Int32) (0 : Int32)) [])) _
        refine XS.iloadN X0.here hx rfl (hb hby at_20) rfl ?_
        show Steps p.tables e below (s₁.setTop (mkF m 21 (LS_IIIIuu p0 p1 (5 : Int32) (0 : Int32)) [(.int (5 : Int32))])) _
        refine XS.ifYes X0.here hx rfl (pc0 := 21) (pc' := 47) rfl (hb hby at_21) rfl ((if0 _ _).trans (feq (by decide : ¬ ((5 : Int32) = (0 : Int32)))).2) (by decide) (by decide) ?_
        show Steps p.tables e below (s₁.setTop (mkF m 47 (LS_IIIIuu p0 p1 (5 : Int32) (0 : Int32)) [])) _
        refine XS.iloadN X0.here hx rfl (hb hby at_47) rfl ?_
        show Steps p.tables e below (s₁.setTop (mkF m 48 (LS_IIIIuu p0 p1 (5 : Int32) (0 : Int32)) [(.int (5 : Int32))])) _
        refine XS.iconst X0.here hx rfl (hb hby at_48) ?_
        show Steps p.tables e below (s₁.setTop (mkF m 49 (LS_IIIIuu p0 p1 (5 : Int32) (0 : Int32)) [(.int (1 : Int32)), (.int (5 : Int32))])) _
        refine XS.icmpYes X0.here hx rfl (pc0 := 49) (pc' := 75) rfl (hb hby at_49) rfl (feq (by decide : ¬ ((5 : Int32) = (1 : Int32)))).2 (by decide) (by decide) ?_
        show Steps p.tables e below (s₁.setTop (mkF m 75 (LS_IIIIuu p0 p1 (5 : Int32) (0 : Int32)) [])) _
        refine XS.iloadN X0.here hx rfl (hb hby at_75) rfl ?_
        show Steps p.tables e below (s₁.setTop (mkF m 76 (LS_IIIIuu p0 p1 (5 : Int32) (0 : Int32)) [(.int (5 : Int32))])) _
        refine XS.iconst X0.here hx rfl (hb hby at_76) ?_
        show Steps p.tables e below (s₁.setTop (mkF m 77 (LS_IIIIuu p0 p1 (5 : Int32) (0 : Int32)) [(.int (2 : Int32)), (.int (5 : Int32))])) _
        refine XS.icmpYes X0.here hx rfl (pc0 := 77) (pc' := 103) rfl (hb hby at_77) rfl (feq (by decide : ¬ ((5 : Int32) = (2 : Int32)))).2 (by decide) (by decide) ?_
        show Steps p.tables e below (s₁.setTop (mkF m 103 (LS_IIIIuu p0 p1 (5 : Int32) (0 : Int32)) [])) _
        refine XS.iloadN X0.here hx rfl (hb hby at_103) rfl ?_
        show Steps p.tables e below (s₁.setTop (mkF m 104 (LS_IIIIuu p0 p1 (5 : Int32) (0 : Int32)) [(.int (5 : Int32))])) _
        refine XS.iconst X0.here hx rfl (hb hby at_104) ?_
        show Steps p.tables e below (s₁.setTop (mkF m 105 (LS_IIIIuu p0 p1 (5 : Int32) (0 : Int32)) [(.int (3 : Int32)), (.int (5 : Int32))])) _
        refine XS.icmpYes X0.here hx rfl (pc0 := 105) (pc' := 121) rfl (hb hby at_105) rfl (feq (by decide : ¬ ((5 : Int32) = (3 : Int32)))).2 (by decide) (by decide) ?_
        show Steps p.tables e below (s₁.setTop (mkF m 121 (LS_IIIIuu p0 p1 (5 : Int32) (0 : Int32)) [])) _
        refine XS.iloadN X0.here hx rfl (hb hby at_121) rfl ?_
        show Steps p.tables e below (s₁.setTop (mkF m 122 (LS_IIIIuu p0 p1 (5 : Int32) (0 : Int32)) [(.int (5 : Int32))])) _
        refine XS.iconst X0.here hx rfl (hb hby at_122) ?_
        show Steps p.tables e below (s₁.setTop (mkF m 123 (LS_IIIIuu p0 p1 (5 : Int32) (0 : Int32)) [(.int (4 : Int32)), (.int (5 : Int32))])) _
        refine XS.icmpYes X0.here hx rfl (pc0 := 123) (pc' := 139) rfl (hb hby at_123) rfl (feq (by decide : ¬ ((5 : Int32) = (4 : Int32)))).2 (by decide) (by decide) ?_
        exact k
      obtain ⟨T38, X38, e38, st38⟩ := getS2 X0 hx hZ hown (host := "") (Or.inl (hw _ (List.mem_of_getElem? (i := 32) rfl))) Via.refl e0 S_ObjectClass_TYPE (g := (mkF m 139 (LS_IIIIuu p0 p1 (5 : Int32) (0 : Int32)) [])) rfl (hb hby at_139)
      refine own_go (B := T38.setTop (mkF m 142 (LS_IIIIuu p0 p1 (5 : Int32) (0 : Int32)) [(.ref w_ObjectClass_TYPE)])) (fun t k => st38 _ k) ?_
      refine own_go (B := T38.setTop (mkF m 144 (LS_IIIIRu p0 p1 (5 : Int32) (0 : Int32) w_ObjectClass_TYPE) [])) (fun t k => ?_) ?_
      · show Steps p.tables e below (T38.setTop (mkF m 142 (LS_IIIIuu p0 p1 (5 : Int32) (0 : Int32)) [(.ref w_ObjectClass_TYPE)])) _
        refine XS.astore X38.here hx rfl (hb hby at_142) rfl rfl (l' := (LS_IIIIRu p0 p1 (5 : Int32) (0 : Int32) w_ObjectClass_TYPE)) rfl ?_
        exact k
      obtain ⟨T39, X39, e39, st39⟩ := getS2 X38 hx hZ hown (host := "") (Or.inl (hw _ (List.mem_of_getElem? (i := 34) rfl))) Via.refl e38 S_ObjectKind_TYPE (g := (mkF m 144 (LS_IIIIRu p0 p1 (5 : Int32) (0 : Int32) w_ObjectClass_TYPE) [])) rfl (hb hby at_144)
      refine own_go (B := T39.setTop (mkF m 147 (LS_IIIIRu p0 p1 (5 : Int32) (0 : Int32) w_ObjectClass_TYPE) [(.ref w_ObjectKind_TYPE)])) (fun t k => st39 _ k) ?_
      refine own_go (B := T39.setTop (mkF m 152 (LS_IIIIRR p0 p1 (5 : Int32) (0 : Int32) w_ObjectClass_TYPE w_ObjectKind_TYPE) [(.int (0 : Int32)), (.ref w_ObjectClass_TYPE)])) (fun t k => ?_) ?_
      · show Steps p.tables e below (T39.setTop (mkF m 147 (LS_IIIIRu p0 p1 (5 : Int32) (0 : Int32) w_ObjectClass_TYPE) [(.ref w_ObjectKind_TYPE)])) _
        refine XS.astore X39.here hx rfl (hb hby at_147) rfl rfl (l' := (LS_IIIIRR p0 p1 (5 : Int32) (0 : Int32) w_ObjectClass_TYPE w_ObjectKind_TYPE)) rfl ?_
        show Steps p.tables e below (T39.setTop (mkF m 149 (LS_IIIIRR p0 p1 (5 : Int32) (0 : Int32) w_ObjectClass_TYPE w_ObjectKind_TYPE) [])) _
        refine XS.aload X39.here hx rfl (hb hby at_149) rfl rfl ?_
        show Steps p.tables e below (T39.setTop (mkF m 151 (LS_IIIIRR p0 p1 (5 : Int32) (0 : Int32) w_ObjectClass_TYPE w_ObjectKind_TYPE) [(.ref w_ObjectClass_TYPE)])) _
        refine XS.iloadN X39.here hx rfl (hb hby at_151) rfl ?_
        exact k
      obtain ⟨cq40, kq40, q40a, q40b, q40c⟩ := isOf hZ e39 E_ObjectClass_TYPE
      obtain ⟨_, _, ⟨T40, L40, k40, n40⟩, -, X40, ⟨Lc40, hQ40, l40, y40, z40⟩, st40⟩ := X39.virtualBack hx (y := (⟨"com/example/refbound/refbound/dialect/tsql/ObjectClass", "kind", "(Z)Lcom/example/refbound/refbound/catalog/ObjectKind;"⟩ : MethodName)) (z := (⟨"com/example/refbound/refbound/dialect/tsql/ObjectClass", "kind", "(Z)Lcom/example/refbound/refbound/catalog/ObjectKind;"⟩ : MethodName)) hown (mvT hZ (hw _ (List.mem_of_getElem? (i := 7) rfl))) (mvT hZ (hw _ (List.mem_of_getElem? (i := 8) rfl))) (notFace_of_selects (args := #[]) (mvT hZ (hw _ (List.mem_of_getElem? (i := 10) rfl)))) (mvT hZ (hw _ (List.mem_of_getElem? (i := 10) rfl))) (mvT hZ (hw _ (List.mem_of_getElem? (i := 9) rfl))) (by decide) (backOf (W := 0) (rm1_0 l Z a0 hw [] w_ObjectClass_TYPE w_ObjectKind_TYPE h0 n0 Z0 F_ObjectClass_TYPE_written) hZ (hw _ (List.mem_of_getElem? (i := 11) rfl)) (hw _ (List.mem_of_getElem? (i := 2) rfl)) (by decide) (by decide)) q40a q40c (g := (mkF m 152 (LS_IIIIRR p0 p1 (5 : Int32) (0 : Int32) w_ObjectClass_TYPE w_ObjectKind_TYPE) [(.int (0 : Int32)), (.ref w_ObjectClass_TYPE)])) rfl (by rw [hml]; rfl) (Steps.refl _) (argsL := [(.int (0 : Int32))]) (rest := []) (lenOf pd__Z_Lcom_example_refbound_refbound_catalog_ObjectKind_ rfl) rfl (by show 2 * 0 + _ ≤ _; exact Nat.le_of_eq rfl) (hb hby at_152) (fun _ _ => ⟨rfl, e39, (by decide : 0 + 0 ≤ _), (by decide : 0 + 0 ≤ _)⟩)
      dsimp only [Pt.U, Pt.locs, Pt.cells, Pt.slots] at X40 l40 y40 z40 st40 hQ40
      subst l40 y40 z40
      obtain ⟨rfl, N40q, e40⟩ := hQ40
      have N40 := Fr.app N0 N40q
      refine own_go (B := T40.setTop (mkF m 155 (LS_IIIIRR p0 p1 (5 : Int32) (0 : Int32) w_ObjectClass_TYPE w_ObjectKind_TYPE) [(.ref w_ObjectKind_TYPE)])) (fun t k => st40.trans k) ?_
      refine own_go (B := T40.setTop (mkF m 165 (LS_IIIIRR p0 p1 (5 : Int32) (0 : Int32) w_ObjectClass_TYPE w_ObjectKind_TYPE) [(.int (1 : Int32))])) (fun t k => ?_) ?_
      · show Steps p.tables e below (T40.setTop (mkF m 155 (LS_IIIIRR p0 p1 (5 : Int32) (0 : Int32) w_ObjectClass_TYPE w_ObjectKind_TYPE) [(.ref w_ObjectKind_TYPE)])) _
        refine XS.aload X40.here hx rfl (hb hby at_155) rfl rfl ?_
        show Steps p.tables e below (T40.setTop (mkF m 157 (LS_IIIIRR p0 p1 (5 : Int32) (0 : Int32) w_ObjectClass_TYPE w_ObjectKind_TYPE) [(.ref w_ObjectKind_TYPE), (.ref w_ObjectKind_TYPE)])) _
        refine Jvm.RoadKit.acmp (g := (mkF m 157 (LS_IIIIRR p0 p1 (5 : Int32) (0 : Int32) w_ObjectClass_TYPE w_ObjectKind_TYPE) [(.ref w_ObjectKind_TYPE), (.ref w_ObjectKind_TYPE)])) X40 hx rfl rfl rfl (pc0 := 157) (pc' := 160) (same := true) rfl (hb hby at_157) rfl (decide_eq_true rfl) (by decide) (by decide) ?_
        show Steps p.tables e below (T40.setTop (mkF m 160 (LS_IIIIRR p0 p1 (5 : Int32) (0 : Int32) w_ObjectClass_TYPE w_ObjectKind_TYPE) [])) _
        refine XS.iconst X40.here hx rfl (hb hby at_160) ?_
        show Steps p.tables e below (T40.setTop (mkF m 161 (LS_IIIIRR p0 p1 (5 : Int32) (0 : Int32) w_ObjectClass_TYPE w_ObjectKind_TYPE) [(.int (1 : Int32))])) _
        refine XS.goto X40.here hx rfl (pc0 := 161) (pc' := 165) rfl (hb hby at_161) (by decide) (by decide) ?_
        exact k
      obtain ⟨fs, hr, hrun, hended, hW, hsame⟩ := X40.leave (v := some (.int (1 : Int32))) (fun h => by rw [Bd.returns] at h; cases h)
      refine ⟨_, _, ?_, hrun, hended, _, _, rfl, ?_, ⟨_, rfl⟩, hW, hsame.mono (by decide) (by decide)⟩
      · show Steps p.tables e below (T40.setTop (mkF m 165 (LS_IIIIRR p0 p1 (5 : Int32) (0 : Int32) w_ObjectClass_TYPE w_ObjectKind_TYPE) [(.int (1 : Int32))])) _
        exact retN X40 hx (t := .boolean) Bd.returns (by simp) (hb hby at_165) hr
      · show Q0 Z p0 p1 w_ObjectClass_PROCEDURE w_ObjectKind_CLR_PROCEDURE w_ObjectClass_TRIGGER w_ObjectKind_CLR_TRIGGER w_ObjectKind_TRIGGER w_ObjectClass_TABLE w_ObjectKind_TABLE w_ObjectClass_FUNCTION w_ObjectKind_CLR_FUNCTION w_ObjectKind_PROCEDURE w_ObjectClass_TYPE w_ObjectKind_TYPE w_ObjectClass_VIEW w_ObjectKind_VIEW w_ObjectKind_FUNCTION h0 n0 _ T40.heap _
        rw [e40]
        exact ⟨rfl, N40⟩
    · refine own_go (B := s₁.setTop (mkF m 139 (LS_IIIIuu p0 p1 (5 : Int32) (1 : Int32)) [])) (fun t k => ?_) ?_
      · show Steps p.tables e below (s₁.setTop (mkF m 11 (LS_IIIuuu p0 p1 (5 : Int32)) [(.int (p1 &&& (1 : Int32)))])) _
        refine XS.ifNo X0.here hx rfl (hb hby at_11) rfl ((if0 _ _).trans (feq hc11_37).1) ?_
        show Steps p.tables e below (s₁.setTop (mkF m 14 (LS_IIIuuu p0 p1 (5 : Int32)) [])) _
        refine XS.iconst X0.here hx rfl (hb hby at_14) ?_
        show Steps p.tables e below (s₁.setTop (mkF m 15 (LS_IIIuuu p0 p1 (5 : Int32)) [(.int (1 : Int32))])) _
        refine XS.goto X0.here hx rfl (pc0 := 15) (pc' := 19) rfl (hb hby at_15) (by decide) (by decide) ?_
        show Steps p.tables e below (s₁.setTop (mkF m 19 (LS_IIIuuu p0 p1 (5 : Int32)) [(.int (1 : Int32))])) _
        refine XS.istoreN X0.here hx rfl (hb hby at_19) rfl (l' := (LS_IIIIuu p0 p1 (5 : Int32) (1 : Int32))) rfl ?_
        show Steps p.tables e below (s₁.setTop (mkF m 20 (LS_IIIIuu p0 p1 (5 : Int32) (1 : Int32)) [])) _
        refine XS.iloadN X0.here hx rfl (hb hby at_20) rfl ?_
        show Steps p.tables e below (s₁.setTop (mkF m 21 (LS_IIIIuu p0 p1 (5 : Int32) (1 : Int32)) [(.int (5 : Int32))])) _
        refine XS.ifYes X0.here hx rfl (pc0 := 21) (pc' := 47) rfl (hb hby at_21) rfl ((if0 _ _).trans (feq (by decide : ¬ ((5 : Int32) = (0 : Int32)))).2) (by decide) (by decide) ?_
        show Steps p.tables e below (s₁.setTop (mkF m 47 (LS_IIIIuu p0 p1 (5 : Int32) (1 : Int32)) [])) _
        refine XS.iloadN X0.here hx rfl (hb hby at_47) rfl ?_
        show Steps p.tables e below (s₁.setTop (mkF m 48 (LS_IIIIuu p0 p1 (5 : Int32) (1 : Int32)) [(.int (5 : Int32))])) _
        refine XS.iconst X0.here hx rfl (hb hby at_48) ?_
        show Steps p.tables e below (s₁.setTop (mkF m 49 (LS_IIIIuu p0 p1 (5 : Int32) (1 : Int32)) [(.int (1 : Int32)), (.int (5 : Int32))])) _
        refine XS.icmpYes X0.here hx rfl (pc0 := 49) (pc' := 75) rfl (hb hby at_49) rfl (feq (by decide : ¬ ((5 : Int32) = (1 : Int32)))).2 (by decide) (by decide) ?_
        show Steps p.tables e below (s₁.setTop (mkF m 75 (LS_IIIIuu p0 p1 (5 : Int32) (1 : Int32)) [])) _
        refine XS.iloadN X0.here hx rfl (hb hby at_75) rfl ?_
        show Steps p.tables e below (s₁.setTop (mkF m 76 (LS_IIIIuu p0 p1 (5 : Int32) (1 : Int32)) [(.int (5 : Int32))])) _
        refine XS.iconst X0.here hx rfl (hb hby at_76) ?_
        show Steps p.tables e below (s₁.setTop (mkF m 77 (LS_IIIIuu p0 p1 (5 : Int32) (1 : Int32)) [(.int (2 : Int32)), (.int (5 : Int32))])) _
        refine XS.icmpYes X0.here hx rfl (pc0 := 77) (pc' := 103) rfl (hb hby at_77) rfl (feq (by decide : ¬ ((5 : Int32) = (2 : Int32)))).2 (by decide) (by decide) ?_
        show Steps p.tables e below (s₁.setTop (mkF m 103 (LS_IIIIuu p0 p1 (5 : Int32) (1 : Int32)) [])) _
        refine XS.iloadN X0.here hx rfl (hb hby at_103) rfl ?_
        show Steps p.tables e below (s₁.setTop (mkF m 104 (LS_IIIIuu p0 p1 (5 : Int32) (1 : Int32)) [(.int (5 : Int32))])) _
        refine XS.iconst X0.here hx rfl (hb hby at_104) ?_
        show Steps p.tables e below (s₁.setTop (mkF m 105 (LS_IIIIuu p0 p1 (5 : Int32) (1 : Int32)) [(.int (3 : Int32)), (.int (5 : Int32))])) _
        refine XS.icmpYes X0.here hx rfl (pc0 := 105) (pc' := 121) rfl (hb hby at_105) rfl (feq (by decide : ¬ ((5 : Int32) = (3 : Int32)))).2 (by decide) (by decide) ?_
        show Steps p.tables e below (s₁.setTop (mkF m 121 (LS_IIIIuu p0 p1 (5 : Int32) (1 : Int32)) [])) _
        refine XS.iloadN X0.here hx rfl (hb hby at_121) rfl ?_
        show Steps p.tables e below (s₁.setTop (mkF m 122 (LS_IIIIuu p0 p1 (5 : Int32) (1 : Int32)) [(.int (5 : Int32))])) _
        refine XS.iconst X0.here hx rfl (hb hby at_122) ?_
        show Steps p.tables e below (s₁.setTop (mkF m 123 (LS_IIIIuu p0 p1 (5 : Int32) (1 : Int32)) [(.int (4 : Int32)), (.int (5 : Int32))])) _
        refine XS.icmpYes X0.here hx rfl (pc0 := 123) (pc' := 139) rfl (hb hby at_123) rfl (feq (by decide : ¬ ((5 : Int32) = (4 : Int32)))).2 (by decide) (by decide) ?_
        exact k
      obtain ⟨T41, X41, e41, st41⟩ := getS2 X0 hx hZ hown (host := "") (Or.inl (hw _ (List.mem_of_getElem? (i := 32) rfl))) Via.refl e0 S_ObjectClass_TYPE (g := (mkF m 139 (LS_IIIIuu p0 p1 (5 : Int32) (1 : Int32)) [])) rfl (hb hby at_139)
      refine own_go (B := T41.setTop (mkF m 142 (LS_IIIIuu p0 p1 (5 : Int32) (1 : Int32)) [(.ref w_ObjectClass_TYPE)])) (fun t k => st41 _ k) ?_
      refine own_go (B := T41.setTop (mkF m 144 (LS_IIIIRu p0 p1 (5 : Int32) (1 : Int32) w_ObjectClass_TYPE) [])) (fun t k => ?_) ?_
      · show Steps p.tables e below (T41.setTop (mkF m 142 (LS_IIIIuu p0 p1 (5 : Int32) (1 : Int32)) [(.ref w_ObjectClass_TYPE)])) _
        refine XS.astore X41.here hx rfl (hb hby at_142) rfl rfl (l' := (LS_IIIIRu p0 p1 (5 : Int32) (1 : Int32) w_ObjectClass_TYPE)) rfl ?_
        exact k
      obtain ⟨T42, X42, e42, st42⟩ := getS2 X41 hx hZ hown (host := "") (Or.inl (hw _ (List.mem_of_getElem? (i := 34) rfl))) Via.refl e41 S_ObjectKind_TYPE (g := (mkF m 144 (LS_IIIIRu p0 p1 (5 : Int32) (1 : Int32) w_ObjectClass_TYPE) [])) rfl (hb hby at_144)
      refine own_go (B := T42.setTop (mkF m 147 (LS_IIIIRu p0 p1 (5 : Int32) (1 : Int32) w_ObjectClass_TYPE) [(.ref w_ObjectKind_TYPE)])) (fun t k => st42 _ k) ?_
      refine own_go (B := T42.setTop (mkF m 152 (LS_IIIIRR p0 p1 (5 : Int32) (1 : Int32) w_ObjectClass_TYPE w_ObjectKind_TYPE) [(.int (1 : Int32)), (.ref w_ObjectClass_TYPE)])) (fun t k => ?_) ?_
      · show Steps p.tables e below (T42.setTop (mkF m 147 (LS_IIIIRu p0 p1 (5 : Int32) (1 : Int32) w_ObjectClass_TYPE) [(.ref w_ObjectKind_TYPE)])) _
        refine XS.astore X42.here hx rfl (hb hby at_147) rfl rfl (l' := (LS_IIIIRR p0 p1 (5 : Int32) (1 : Int32) w_ObjectClass_TYPE w_ObjectKind_TYPE)) rfl ?_
        show Steps p.tables e below (T42.setTop (mkF m 149 (LS_IIIIRR p0 p1 (5 : Int32) (1 : Int32) w_ObjectClass_TYPE w_ObjectKind_TYPE) [])) _
        refine XS.aload X42.here hx rfl (hb hby at_149) rfl rfl ?_
        show Steps p.tables e below (T42.setTop (mkF m 151 (LS_IIIIRR p0 p1 (5 : Int32) (1 : Int32) w_ObjectClass_TYPE w_ObjectKind_TYPE) [(.ref w_ObjectClass_TYPE)])) _
        refine XS.iloadN X42.here hx rfl (hb hby at_151) rfl ?_
        exact k
      obtain ⟨cq43, kq43, q43a, q43b, q43c⟩ := isOf hZ e42 E_ObjectClass_TYPE
      obtain ⟨_, _, ⟨T43, L43, k43, n43⟩, -, X43, ⟨Lc43, hQ43, l43, y43, z43⟩, st43⟩ := X42.virtualBack hx (y := (⟨"com/example/refbound/refbound/dialect/tsql/ObjectClass", "kind", "(Z)Lcom/example/refbound/refbound/catalog/ObjectKind;"⟩ : MethodName)) (z := (⟨"com/example/refbound/refbound/dialect/tsql/ObjectClass", "kind", "(Z)Lcom/example/refbound/refbound/catalog/ObjectKind;"⟩ : MethodName)) hown (mvT hZ (hw _ (List.mem_of_getElem? (i := 7) rfl))) (mvT hZ (hw _ (List.mem_of_getElem? (i := 8) rfl))) (notFace_of_selects (args := #[]) (mvT hZ (hw _ (List.mem_of_getElem? (i := 10) rfl)))) (mvT hZ (hw _ (List.mem_of_getElem? (i := 10) rfl))) (mvT hZ (hw _ (List.mem_of_getElem? (i := 9) rfl))) (by decide) (backOf (W := 0) (rm1_1 l Z a0 hw [] w_ObjectClass_TYPE w_ObjectKind_TYPE h0 n0 Z0 F_ObjectClass_TYPE_external) hZ (hw _ (List.mem_of_getElem? (i := 11) rfl)) (hw _ (List.mem_of_getElem? (i := 2) rfl)) (by decide) (by decide)) q43a q43c (g := (mkF m 152 (LS_IIIIRR p0 p1 (5 : Int32) (1 : Int32) w_ObjectClass_TYPE w_ObjectKind_TYPE) [(.int (1 : Int32)), (.ref w_ObjectClass_TYPE)])) rfl (by rw [hml]; rfl) (Steps.refl _) (argsL := [(.int (1 : Int32))]) (rest := []) (lenOf pd__Z_Lcom_example_refbound_refbound_catalog_ObjectKind_ rfl) rfl (by show 2 * 0 + _ ≤ _; exact Nat.le_of_eq rfl) (hb hby at_152) (fun _ _ => ⟨rfl, e42, (by decide : 0 + 0 ≤ _), (by decide : 0 + 0 ≤ _)⟩)
      dsimp only [Pt.U, Pt.locs, Pt.cells, Pt.slots] at X43 l43 y43 z43 st43 hQ43
      subst l43 y43 z43
      obtain ⟨rfl, N43q, e43⟩ := hQ43
      have N43 := Fr.app N0 N43q
      refine own_go (B := T43.setTop (mkF m 155 (LS_IIIIRR p0 p1 (5 : Int32) (1 : Int32) w_ObjectClass_TYPE w_ObjectKind_TYPE) [(.ref w_ObjectKind_TYPE)])) (fun t k => st43.trans k) ?_
      refine own_go (B := T43.setTop (mkF m 165 (LS_IIIIRR p0 p1 (5 : Int32) (1 : Int32) w_ObjectClass_TYPE w_ObjectKind_TYPE) [(.int (1 : Int32))])) (fun t k => ?_) ?_
      · show Steps p.tables e below (T43.setTop (mkF m 155 (LS_IIIIRR p0 p1 (5 : Int32) (1 : Int32) w_ObjectClass_TYPE w_ObjectKind_TYPE) [(.ref w_ObjectKind_TYPE)])) _
        refine XS.aload X43.here hx rfl (hb hby at_155) rfl rfl ?_
        show Steps p.tables e below (T43.setTop (mkF m 157 (LS_IIIIRR p0 p1 (5 : Int32) (1 : Int32) w_ObjectClass_TYPE w_ObjectKind_TYPE) [(.ref w_ObjectKind_TYPE), (.ref w_ObjectKind_TYPE)])) _
        refine Jvm.RoadKit.acmp (g := (mkF m 157 (LS_IIIIRR p0 p1 (5 : Int32) (1 : Int32) w_ObjectClass_TYPE w_ObjectKind_TYPE) [(.ref w_ObjectKind_TYPE), (.ref w_ObjectKind_TYPE)])) X43 hx rfl rfl rfl (pc0 := 157) (pc' := 160) (same := true) rfl (hb hby at_157) rfl (decide_eq_true rfl) (by decide) (by decide) ?_
        show Steps p.tables e below (T43.setTop (mkF m 160 (LS_IIIIRR p0 p1 (5 : Int32) (1 : Int32) w_ObjectClass_TYPE w_ObjectKind_TYPE) [])) _
        refine XS.iconst X43.here hx rfl (hb hby at_160) ?_
        show Steps p.tables e below (T43.setTop (mkF m 161 (LS_IIIIRR p0 p1 (5 : Int32) (1 : Int32) w_ObjectClass_TYPE w_ObjectKind_TYPE) [(.int (1 : Int32))])) _
        refine XS.goto X43.here hx rfl (pc0 := 161) (pc' := 165) rfl (hb hby at_161) (by decide) (by decide) ?_
        exact k
      obtain ⟨fs, hr, hrun, hended, hW, hsame⟩ := X43.leave (v := some (.int (1 : Int32))) (fun h => by rw [Bd.returns] at h; cases h)
      refine ⟨_, _, ?_, hrun, hended, _, _, rfl, ?_, ⟨_, rfl⟩, hW, hsame.mono (by decide) (by decide)⟩
      · show Steps p.tables e below (T43.setTop (mkF m 165 (LS_IIIIRR p0 p1 (5 : Int32) (1 : Int32) w_ObjectClass_TYPE w_ObjectKind_TYPE) [(.int (1 : Int32))])) _
        exact retN X43 hx (t := .boolean) Bd.returns (by simp) (hb hby at_165) hr
      · show Q0 Z p0 p1 w_ObjectClass_PROCEDURE w_ObjectKind_CLR_PROCEDURE w_ObjectClass_TRIGGER w_ObjectKind_CLR_TRIGGER w_ObjectKind_TRIGGER w_ObjectClass_TABLE w_ObjectKind_TABLE w_ObjectClass_FUNCTION w_ObjectKind_CLR_FUNCTION w_ObjectKind_PROCEDURE w_ObjectClass_TYPE w_ObjectKind_TYPE w_ObjectClass_VIEW w_ObjectKind_VIEW w_ObjectKind_FUNCTION h0 n0 _ T43.heap _
        rw [e43]
        exact ⟨rfl, N43⟩
set_option maxRecDepth 65536 in
set_option maxHeartbeats 40000000 in
theorem comes_1 {Post : Tables → Env → Array Value → State → Outcome → State → Prop} (hpost : ∀ tb e args s v u, (limb_1_1.after args s (.returned v) u = true ∧ limb_1_2.after args s (.returned v) u = true ∧ True) → FrameEnd s (.returned v) u (Jvm.fieldLocs frame_1_writes args s ++ Jvm.arrayLocs frame_1_arrays args s ++ Jvm.staticLocs frame_1_statics s) 0 0 → Post tb e args s (.returned v) u) :
    ArmFor flags0 classFile x code maxLocals ret World_1 tables_1 room_1 Calls_1 rest_1 Pre_1 Post := by
  intro l hfl _ _ p e ha hc hk s m args below hf hA hF happ hP
  obtain ⟨hcalls, hrest, hpre⟩ := hP
  obtain ⟨-, -, -, hnamed, -, -, -, hat⟩ := (Spec.applies_iff hf).mp happ
  obtain ⟨hg, hn⟩ := and_e (Cond.before_iff.mp (show (Jvm.Cond.and given_1 narrow_1).before args s = true from hpre))
  obtain ⟨g1, g2⟩ := and_e hg
  obtain ⟨g3, g4⟩ := and_e g2
  obtain ⟨w0, w1, rfl⟩ : ∃ w0 w1 : Value, args = #[w0, w1] := by
    have hs : args.size = 2 := by simpa [Cond.value, given_1] using g1
    obtain ⟨L⟩ := args
    match L, hs with
    | [w0, w1], _ => exact ⟨w0, w1, rfl⟩
  have hw := fun d (hd : d ∈ tables_1) => atoms_spec (ws := Jvm.Cond.code x code maxLocals ret :: tables_1) hat d (List.mem_cons_of_mem _ hd)
  have hfit : Fit s := fun {y c} hc i hi => by
    obtain ⟨ha, rfl⟩ := Array.getElem?_eq_some_iff.mp hc
    have q := List.all_eq_true.mp ((Array.all_eq_true_iff_forall_mem.mp hF) _ (Array.getElem_mem ha)) i (List.mem_range.mpr hi)
    simpa [Array.getElem?_eq_getElem hi] using q
  obtain ⟨i0, ei0⟩ := is_v g3
  obtain rfl : w0 = (.int i0) := Option.some.inj ei0
  obtain ⟨i1, ei1⟩ := is_v g4
  obtain rfl : w1 = (.int i1) := Option.some.inj ei1
  obtain ⟨g5, g6⟩ := and_e hn
  obtain ⟨w_ObjectClass_PROCEDURE, ev_ObjectClass_PROCEDURE⟩ := exa_v g5
  have S_ObjectClass_PROCEDURE : Sta s s.heap "com/example/refbound/refbound/dialect/tsql/ObjectClass" "PROCEDURE" "Lcom/example/refbound/refbound/dialect/tsql/ObjectClass;" (.ref w_ObjectClass_PROCEDURE) := Sta.start ev_ObjectClass_PROCEDURE (Or.inr ⟨(hw _ (List.mem_of_getElem? (i := 2) rfl)), (hw _ (List.mem_of_getElem? (i := 3) rfl))⟩)
  have E_ObjectClass_PROCEDURE : Exa s s.heap w_ObjectClass_PROCEDURE "com/example/refbound/refbound/dialect/tsql/ObjectClass" := Exa.start ev_ObjectClass_PROCEDURE g5
  obtain ⟨g7, g8⟩ := and_e g6
  obtain ⟨w_ObjectKind_CLR_PROCEDURE, ev_ObjectKind_CLR_PROCEDURE⟩ := exa_v g7
  have S_ObjectKind_CLR_PROCEDURE : Sta s s.heap "com/example/refbound/refbound/catalog/ObjectKind" "CLR_PROCEDURE" "Lcom/example/refbound/refbound/catalog/ObjectKind;" (.ref w_ObjectKind_CLR_PROCEDURE) := Sta.start ev_ObjectKind_CLR_PROCEDURE (Or.inr ⟨(hw _ (List.mem_of_getElem? (i := 5) rfl)), (hw _ (List.mem_of_getElem? (i := 6) rfl))⟩)
  have E_ObjectKind_CLR_PROCEDURE : Exa s s.heap w_ObjectKind_CLR_PROCEDURE "com/example/refbound/refbound/catalog/ObjectKind" := Exa.start ev_ObjectKind_CLR_PROCEDURE g7
  obtain ⟨g9, g10⟩ := and_e g8
  obtain ⟨g11, g12⟩ := and_e g10
  obtain ⟨w_ObjectClass_TRIGGER, ev_ObjectClass_TRIGGER⟩ := exa_v g11
  have S_ObjectClass_TRIGGER : Sta s s.heap "com/example/refbound/refbound/dialect/tsql/ObjectClass" "TRIGGER" "Lcom/example/refbound/refbound/dialect/tsql/ObjectClass;" (.ref w_ObjectClass_TRIGGER) := Sta.start ev_ObjectClass_TRIGGER (Or.inr ⟨(hw _ (List.mem_of_getElem? (i := 2) rfl)), (hw _ (List.mem_of_getElem? (i := 15) rfl))⟩)
  have E_ObjectClass_TRIGGER : Exa s s.heap w_ObjectClass_TRIGGER "com/example/refbound/refbound/dialect/tsql/ObjectClass" := Exa.start ev_ObjectClass_TRIGGER g11
  obtain ⟨g13, g14⟩ := and_e g12
  obtain ⟨w_ObjectKind_CLR_TRIGGER, ev_ObjectKind_CLR_TRIGGER⟩ := exa_v g13
  have S_ObjectKind_CLR_TRIGGER : Sta s s.heap "com/example/refbound/refbound/catalog/ObjectKind" "CLR_TRIGGER" "Lcom/example/refbound/refbound/catalog/ObjectKind;" (.ref w_ObjectKind_CLR_TRIGGER) := Sta.start ev_ObjectKind_CLR_TRIGGER (Or.inr ⟨(hw _ (List.mem_of_getElem? (i := 5) rfl)), (hw _ (List.mem_of_getElem? (i := 17) rfl))⟩)
  have E_ObjectKind_CLR_TRIGGER : Exa s s.heap w_ObjectKind_CLR_TRIGGER "com/example/refbound/refbound/catalog/ObjectKind" := Exa.start ev_ObjectKind_CLR_TRIGGER g13
  obtain ⟨g15, g16⟩ := and_e g14
  obtain ⟨g17, g18⟩ := and_e g16
  obtain ⟨w_ObjectKind_TRIGGER, ev_ObjectKind_TRIGGER⟩ := exa_v g17
  have S_ObjectKind_TRIGGER : Sta s s.heap "com/example/refbound/refbound/catalog/ObjectKind" "TRIGGER" "Lcom/example/refbound/refbound/catalog/ObjectKind;" (.ref w_ObjectKind_TRIGGER) := Sta.start ev_ObjectKind_TRIGGER (Or.inr ⟨(hw _ (List.mem_of_getElem? (i := 5) rfl)), (hw _ (List.mem_of_getElem? (i := 19) rfl))⟩)
  have E_ObjectKind_TRIGGER : Exa s s.heap w_ObjectKind_TRIGGER "com/example/refbound/refbound/catalog/ObjectKind" := Exa.start ev_ObjectKind_TRIGGER g17
  obtain ⟨g19, g20⟩ := and_e g18
  obtain ⟨g21, g22⟩ := and_e g20
  obtain ⟨w_ObjectClass_TABLE, ev_ObjectClass_TABLE⟩ := exa_v g21
  have S_ObjectClass_TABLE : Sta s s.heap "com/example/refbound/refbound/dialect/tsql/ObjectClass" "TABLE" "Lcom/example/refbound/refbound/dialect/tsql/ObjectClass;" (.ref w_ObjectClass_TABLE) := Sta.start ev_ObjectClass_TABLE (Or.inr ⟨(hw _ (List.mem_of_getElem? (i := 2) rfl)), (hw _ (List.mem_of_getElem? (i := 23) rfl))⟩)
  have E_ObjectClass_TABLE : Exa s s.heap w_ObjectClass_TABLE "com/example/refbound/refbound/dialect/tsql/ObjectClass" := Exa.start ev_ObjectClass_TABLE g21
  obtain ⟨g23, g24⟩ := and_e g22
  obtain ⟨w_ObjectKind_TABLE, ev_ObjectKind_TABLE⟩ := exa_v g23
  have S_ObjectKind_TABLE : Sta s s.heap "com/example/refbound/refbound/catalog/ObjectKind" "TABLE" "Lcom/example/refbound/refbound/catalog/ObjectKind;" (.ref w_ObjectKind_TABLE) := Sta.start ev_ObjectKind_TABLE (Or.inr ⟨(hw _ (List.mem_of_getElem? (i := 5) rfl)), (hw _ (List.mem_of_getElem? (i := 25) rfl))⟩)
  have E_ObjectKind_TABLE : Exa s s.heap w_ObjectKind_TABLE "com/example/refbound/refbound/catalog/ObjectKind" := Exa.start ev_ObjectKind_TABLE g23
  obtain ⟨g25, g26⟩ := and_e g24
  obtain ⟨g27, g28⟩ := and_e g26
  obtain ⟨w_ObjectClass_FUNCTION, ev_ObjectClass_FUNCTION⟩ := exa_v g27
  have S_ObjectClass_FUNCTION : Sta s s.heap "com/example/refbound/refbound/dialect/tsql/ObjectClass" "FUNCTION" "Lcom/example/refbound/refbound/dialect/tsql/ObjectClass;" (.ref w_ObjectClass_FUNCTION) := Sta.start ev_ObjectClass_FUNCTION (Or.inr ⟨(hw _ (List.mem_of_getElem? (i := 2) rfl)), (hw _ (List.mem_of_getElem? (i := 27) rfl))⟩)
  have E_ObjectClass_FUNCTION : Exa s s.heap w_ObjectClass_FUNCTION "com/example/refbound/refbound/dialect/tsql/ObjectClass" := Exa.start ev_ObjectClass_FUNCTION g27
  obtain ⟨g29, g30⟩ := and_e g28
  obtain ⟨w_ObjectKind_CLR_FUNCTION, ev_ObjectKind_CLR_FUNCTION⟩ := exa_v g29
  have S_ObjectKind_CLR_FUNCTION : Sta s s.heap "com/example/refbound/refbound/catalog/ObjectKind" "CLR_FUNCTION" "Lcom/example/refbound/refbound/catalog/ObjectKind;" (.ref w_ObjectKind_CLR_FUNCTION) := Sta.start ev_ObjectKind_CLR_FUNCTION (Or.inr ⟨(hw _ (List.mem_of_getElem? (i := 5) rfl)), (hw _ (List.mem_of_getElem? (i := 29) rfl))⟩)
  have E_ObjectKind_CLR_FUNCTION : Exa s s.heap w_ObjectKind_CLR_FUNCTION "com/example/refbound/refbound/catalog/ObjectKind" := Exa.start ev_ObjectKind_CLR_FUNCTION g29
  obtain ⟨g31, g32⟩ := and_e g30
  obtain ⟨g33, g34⟩ := and_e g32
  obtain ⟨w_ObjectKind_PROCEDURE, ev_ObjectKind_PROCEDURE⟩ := exa_v g33
  have S_ObjectKind_PROCEDURE : Sta s s.heap "com/example/refbound/refbound/catalog/ObjectKind" "PROCEDURE" "Lcom/example/refbound/refbound/catalog/ObjectKind;" (.ref w_ObjectKind_PROCEDURE) := Sta.start ev_ObjectKind_PROCEDURE (Or.inr ⟨(hw _ (List.mem_of_getElem? (i := 5) rfl)), (hw _ (List.mem_of_getElem? (i := 31) rfl))⟩)
  have E_ObjectKind_PROCEDURE : Exa s s.heap w_ObjectKind_PROCEDURE "com/example/refbound/refbound/catalog/ObjectKind" := Exa.start ev_ObjectKind_PROCEDURE g33
  obtain ⟨g35, g36⟩ := and_e g34
  obtain ⟨g37, g38⟩ := and_e g36
  obtain ⟨w_ObjectClass_TYPE, ev_ObjectClass_TYPE⟩ := exa_v g37
  have S_ObjectClass_TYPE : Sta s s.heap "com/example/refbound/refbound/dialect/tsql/ObjectClass" "TYPE" "Lcom/example/refbound/refbound/dialect/tsql/ObjectClass;" (.ref w_ObjectClass_TYPE) := Sta.start ev_ObjectClass_TYPE (Or.inr ⟨(hw _ (List.mem_of_getElem? (i := 2) rfl)), (hw _ (List.mem_of_getElem? (i := 33) rfl))⟩)
  have E_ObjectClass_TYPE : Exa s s.heap w_ObjectClass_TYPE "com/example/refbound/refbound/dialect/tsql/ObjectClass" := Exa.start ev_ObjectClass_TYPE g37
  obtain ⟨g39, g40⟩ := and_e g38
  obtain ⟨w_ObjectKind_TYPE, ev_ObjectKind_TYPE⟩ := exa_v g39
  have S_ObjectKind_TYPE : Sta s s.heap "com/example/refbound/refbound/catalog/ObjectKind" "TYPE" "Lcom/example/refbound/refbound/catalog/ObjectKind;" (.ref w_ObjectKind_TYPE) := Sta.start ev_ObjectKind_TYPE (Or.inr ⟨(hw _ (List.mem_of_getElem? (i := 5) rfl)), (hw _ (List.mem_of_getElem? (i := 35) rfl))⟩)
  have E_ObjectKind_TYPE : Exa s s.heap w_ObjectKind_TYPE "com/example/refbound/refbound/catalog/ObjectKind" := Exa.start ev_ObjectKind_TYPE g39
  obtain ⟨g41, g42⟩ := and_e g40
  obtain ⟨g43, g44⟩ := and_e g42
  obtain ⟨w_ObjectClass_VIEW, ev_ObjectClass_VIEW⟩ := exa_v g43
  have S_ObjectClass_VIEW : Sta s s.heap "com/example/refbound/refbound/dialect/tsql/ObjectClass" "VIEW" "Lcom/example/refbound/refbound/dialect/tsql/ObjectClass;" (.ref w_ObjectClass_VIEW) := Sta.start ev_ObjectClass_VIEW (Or.inr ⟨(hw _ (List.mem_of_getElem? (i := 2) rfl)), (hw _ (List.mem_of_getElem? (i := 37) rfl))⟩)
  have E_ObjectClass_VIEW : Exa s s.heap w_ObjectClass_VIEW "com/example/refbound/refbound/dialect/tsql/ObjectClass" := Exa.start ev_ObjectClass_VIEW g43
  obtain ⟨g45, g46⟩ := and_e g44
  obtain ⟨w_ObjectKind_VIEW, ev_ObjectKind_VIEW⟩ := exa_v g45
  have S_ObjectKind_VIEW : Sta s s.heap "com/example/refbound/refbound/catalog/ObjectKind" "VIEW" "Lcom/example/refbound/refbound/catalog/ObjectKind;" (.ref w_ObjectKind_VIEW) := Sta.start ev_ObjectKind_VIEW (Or.inr ⟨(hw _ (List.mem_of_getElem? (i := 5) rfl)), (hw _ (List.mem_of_getElem? (i := 39) rfl))⟩)
  have E_ObjectKind_VIEW : Exa s s.heap w_ObjectKind_VIEW "com/example/refbound/refbound/catalog/ObjectKind" := Exa.start ev_ObjectKind_VIEW g45
  obtain ⟨g47, g48⟩ := and_e g46
  obtain ⟨g49, g50⟩ := and_e g48
  obtain ⟨g51, g52⟩ := and_e g50
  obtain ⟨w_ObjectKind_FUNCTION, ev_ObjectKind_FUNCTION⟩ := exa_v g51
  have S_ObjectKind_FUNCTION : Sta s s.heap "com/example/refbound/refbound/catalog/ObjectKind" "FUNCTION" "Lcom/example/refbound/refbound/catalog/ObjectKind;" (.ref w_ObjectKind_FUNCTION) := Sta.start ev_ObjectKind_FUNCTION (Or.inr ⟨(hw _ (List.mem_of_getElem? (i := 5) rfl)), (hw _ (List.mem_of_getElem? (i := 41) rfl))⟩)
  have E_ObjectKind_FUNCTION : Exa s s.heap w_ObjectKind_FUNCTION "com/example/refbound/refbound/catalog/ObjectKind" := Exa.start ev_ObjectKind_FUNCTION g51
  obtain ⟨g53, g54⟩ := and_e g52
  obtain ⟨g55, g56⟩ := and_e g54
  have F_ObjectClass_PROCEDURE_external : Fld s s.heap w_ObjectClass_PROCEDURE "com/example/refbound/refbound/dialect/tsql/ObjectClass" "external" "Lcom/example/refbound/refbound/catalog/ObjectKind;" (.ref w_ObjectKind_CLR_PROCEDURE) := Fld.start ((fld_at ev_ObjectClass_PROCEDURE).symm.trans (own_eqR g9 ev_ObjectKind_CLR_PROCEDURE))
  have F_ObjectClass_TRIGGER_external : Fld s s.heap w_ObjectClass_TRIGGER "com/example/refbound/refbound/dialect/tsql/ObjectClass" "external" "Lcom/example/refbound/refbound/catalog/ObjectKind;" (.ref w_ObjectKind_CLR_TRIGGER) := Fld.start ((fld_at ev_ObjectClass_TRIGGER).symm.trans (own_eqR g15 ev_ObjectKind_CLR_TRIGGER))
  have F_ObjectClass_TRIGGER_written : Fld s s.heap w_ObjectClass_TRIGGER "com/example/refbound/refbound/dialect/tsql/ObjectClass" "written" "Lcom/example/refbound/refbound/catalog/ObjectKind;" (.ref w_ObjectKind_TRIGGER) := Fld.start ((fld_at ev_ObjectClass_TRIGGER).symm.trans (own_eqR g19 ev_ObjectKind_TRIGGER))
  have F_ObjectClass_TABLE_written : Fld s s.heap w_ObjectClass_TABLE "com/example/refbound/refbound/dialect/tsql/ObjectClass" "written" "Lcom/example/refbound/refbound/catalog/ObjectKind;" (.ref w_ObjectKind_TABLE) := Fld.start ((fld_at ev_ObjectClass_TABLE).symm.trans (own_eqR g25 ev_ObjectKind_TABLE))
  have F_ObjectClass_FUNCTION_external : Fld s s.heap w_ObjectClass_FUNCTION "com/example/refbound/refbound/dialect/tsql/ObjectClass" "external" "Lcom/example/refbound/refbound/catalog/ObjectKind;" (.ref w_ObjectKind_CLR_FUNCTION) := Fld.start ((fld_at ev_ObjectClass_FUNCTION).symm.trans (own_eqR g31 ev_ObjectKind_CLR_FUNCTION))
  have F_ObjectClass_PROCEDURE_written : Fld s s.heap w_ObjectClass_PROCEDURE "com/example/refbound/refbound/dialect/tsql/ObjectClass" "written" "Lcom/example/refbound/refbound/catalog/ObjectKind;" (.ref w_ObjectKind_PROCEDURE) := Fld.start ((fld_at ev_ObjectClass_PROCEDURE).symm.trans (own_eqR g35 ev_ObjectKind_PROCEDURE))
  have F_ObjectClass_TYPE_written : Fld s s.heap w_ObjectClass_TYPE "com/example/refbound/refbound/dialect/tsql/ObjectClass" "written" "Lcom/example/refbound/refbound/catalog/ObjectKind;" (.ref w_ObjectKind_TYPE) := Fld.start ((fld_at ev_ObjectClass_TYPE).symm.trans (own_eqR g41 ev_ObjectKind_TYPE))
  have F_ObjectClass_VIEW_external : Fld s s.heap w_ObjectClass_VIEW "com/example/refbound/refbound/dialect/tsql/ObjectClass" "external" "Lcom/example/refbound/refbound/catalog/ObjectKind;" (.ref w_ObjectKind_VIEW) := Fld.start ((fld_at ev_ObjectClass_VIEW).symm.trans (own_eqR g47 ev_ObjectKind_VIEW))
  have F_ObjectClass_VIEW_written : Fld s s.heap w_ObjectClass_VIEW "com/example/refbound/refbound/dialect/tsql/ObjectClass" "written" "Lcom/example/refbound/refbound/catalog/ObjectKind;" (.ref w_ObjectKind_VIEW) := Fld.start ((fld_at ev_ObjectClass_VIEW).symm.trans (own_eqR g49 ev_ObjectKind_VIEW))
  have F_ObjectClass_FUNCTION_written : Fld s s.heap w_ObjectClass_FUNCTION "com/example/refbound/refbound/dialect/tsql/ObjectClass" "written" "Lcom/example/refbound/refbound/catalog/ObjectKind;" (.ref w_ObjectKind_FUNCTION) := Fld.start ((fld_at ev_ObjectClass_FUNCTION).symm.trans (own_eqR g53 ev_ObjectKind_FUNCTION))
  have F_ObjectClass_TABLE_external : Fld s s.heap w_ObjectClass_TABLE "com/example/refbound/refbound/dialect/tsql/ObjectClass" "external" "Lcom/example/refbound/refbound/catalog/ObjectKind;" (.ref w_ObjectKind_TABLE) := Fld.start ((fld_at ev_ObjectClass_TABLE).symm.trans (own_eqR g55 ev_ObjectKind_TABLE))
  have F_ObjectClass_TYPE_external : Fld s s.heap w_ObjectClass_TYPE "com/example/refbound/refbound/dialect/tsql/ObjectClass" "external" "Lcom/example/refbound/refbound/catalog/ObjectKind;" (.ref w_ObjectKind_TYPE) := Fld.start ((fld_at ev_ObjectClass_TYPE).symm.trans (own_eqR g56 ev_ObjectKind_TYPE))
  obtain ⟨n, o, h1, h2, h3, _, L, rfl, ⟨rfl, N⟩, hq⟩ := rm0 l s _ hw tables_1 i0 i1 w_ObjectClass_PROCEDURE w_ObjectKind_CLR_PROCEDURE w_ObjectClass_TRIGGER w_ObjectKind_CLR_TRIGGER w_ObjectKind_TRIGGER w_ObjectClass_TABLE w_ObjectKind_TABLE w_ObjectClass_FUNCTION w_ObjectKind_CLR_FUNCTION w_ObjectKind_PROCEDURE w_ObjectClass_TYPE w_ObjectKind_TYPE w_ObjectClass_VIEW w_ObjectKind_VIEW w_ObjectKind_FUNCTION s.heap s.heap.size (Nat.le_refl _) S_ObjectClass_PROCEDURE E_ObjectClass_PROCEDURE S_ObjectKind_CLR_PROCEDURE E_ObjectKind_CLR_PROCEDURE S_ObjectClass_TRIGGER E_ObjectClass_TRIGGER S_ObjectKind_CLR_TRIGGER E_ObjectKind_CLR_TRIGGER S_ObjectKind_TRIGGER E_ObjectKind_TRIGGER S_ObjectClass_TABLE E_ObjectClass_TABLE S_ObjectKind_TABLE E_ObjectKind_TABLE S_ObjectClass_FUNCTION E_ObjectClass_FUNCTION S_ObjectKind_CLR_FUNCTION E_ObjectKind_CLR_FUNCTION S_ObjectKind_PROCEDURE E_ObjectKind_PROCEDURE S_ObjectClass_TYPE E_ObjectClass_TYPE S_ObjectKind_TYPE E_ObjectKind_TYPE S_ObjectClass_VIEW E_ObjectClass_VIEW S_ObjectKind_VIEW E_ObjectKind_VIEW S_ObjectKind_FUNCTION E_ObjectKind_FUNCTION F_ObjectClass_PROCEDURE_external F_ObjectClass_TRIGGER_external F_ObjectClass_TRIGGER_written F_ObjectClass_TABLE_written F_ObjectClass_FUNCTION_external F_ObjectClass_PROCEDURE_written F_ObjectClass_TYPE_written F_ObjectClass_VIEW_external F_ObjectClass_VIEW_written F_ObjectClass_FUNCTION_written F_ObjectClass_TABLE_external F_ObjectClass_TYPE_external p e ha hc hk s m _ below hf ((Spec.applies_iff_loose hf).mp happ).1 ⟨rfl, State.Warmed39.refl s, rfl⟩ trivial
  refine ⟨n, _, h1, h2, h3, hpost _ _ _ _ _ _ ⟨Cond.after_iff.mpr rfl, Cond.after_iff.mpr (eq_i res_at (Term.int_eval (1)) rfl), trivial⟩ ⟨hq.1, hq.2.1, (hq.2.2.sift fun y hy => Or.inr (N y hy)).mono (by decide) (by decide)⟩⟩
theorem main_1_1 : Claimed_1_1 := comes_1 fun _ _ _ _ _ _ h hF => ⟨h.1, hF⟩
theorem main_1_2 : Claimed_1_2 := comes_1 fun _ _ _ _ _ _ h hF => ⟨h.2.1, hF⟩
end Jvm.Pilot.@@N@@
namespace Jvm.Pilot.@@N@@
open Jvm Jvm.ClassFile Sem Op Lib Jvm.Free Jvm.Stand Jvm.Pilot.@@N@@.Jvm.D
/-! MADE BY PROGRAM (witnessworld.py) out of the Statement's table words and the real class files: 13 classes; the members and pool entries that the words name. The judged class is class 1, her method 1. -/
namespace start1
open Jvm.ClassFile
def u (s : String) : CpInfo := .utf8 (stringToUtf16 s)
/-- a pool by its gaps: so many unusable entries, then the entry; so many at the end -/
def gap : Nat → List CpInfo → List CpInfo
  | 0, r => r
  | n + 1, r => .unusable :: gap n r
def poolList (es : List (Nat × CpInfo)) (last : Nat) : List CpInfo := es.foldr (fun e r => gap e.1 (e.2 :: r)) (gap last [])
def pool (es : List (Nat × CpInfo)) (last : Nat) : Array CpInfo := ⟨poolList es last⟩
def fileOf (pool : Array CpInfo) (this : Nat) (attrs : Array Attribute := #[]) (ms : Array MethodInfo := #[]) (fl : Nat := 33) (sup : Nat := 0) (ifs : Array Nat := #[]) (fds : Array FieldInfo := #[]) : ClassFile where
  minorVersion := 0
  majorVersion := 65
  constantPool := pool
  accessFlags := fl
  thisClass := this
  superClass := sup
  interfaces := ifs
  fields := fds
  methods := ms
  attributes := attrs
def plain (name : String) (sup : Option ClassId) : Class where
  name := name
  kind := .ordinary
  loader := none
  accessFlags := 33
  super := sup
  interfaces := #[]
  cf := none
  fields := #[]
  methods := #[]
  instanceTypes := #[]
  staticTypes := #[]
  resolved := #[]
  callSites := []
  init := .initialized
  statics := none
  mirror := none

def pool0 : Array CpInfo := pool [(5, u "<init>"), (0, u "()V"), (1, .class_ 10), (1, u "java/lang/Object")] 113

def k0m0 : Method := { name := "<init>", desc := "()V", sig := { parameters := [], returnType := none }, accessFlags := 1, code := none }
/-- java/lang/Object -/
def k0 : Class := { plain "java/lang/Object" none with
  accessFlags := 33
  interfaces := #[]
  cf := some (fileOf pool0 8 #[] #[{ accessFlags := 1, nameIndex := 5, descriptorIndex := 6, attributes := #[] }] 33 0 #[] #[])
  fields := #[]
  methods := #[k0m0]
  instanceTypes := #[]
  staticTypes := #[]
  resolved := Array.replicate 124 none
  statics := none }

def pool1 : Array CpInfo := pool [(2, .class_ 4), (1, u "java/lang/Object"), (0, u "<init>"), (0, u "()V"), (0, .integer 2147483647), (0, .fieldref 9 10), (0, .class_ 11), (0, .nameAndType 12 13), (0, u "com/example/refbound/refbound/dialect/tsql/ObjectClass"), (0, u "PROCEDURE"), (0, u "Lcom/example/refbound/refbound/dialect/tsql/ObjectClass;"), (0, .fieldref 15 16), (0, .class_ 17), (0, .nameAndType 18 19), (0, u "com/example/refbound/refbound/catalog/ObjectKind"), (0, u "CLR_PROCEDURE"), (0, u "Lcom/example/refbound/refbound/catalog/ObjectKind;"), (0, .fieldref 15 21), (0, .nameAndType 12 19), (0, .fieldref 9 23), (0, .nameAndType 24 13), (0, u "FUNCTION"), (0, .fieldref 15 26), (0, .nameAndType 27 19), (0, u "CLR_FUNCTION"), (0, .fieldref 15 29), (0, .nameAndType 24 19), (0, .fieldref 9 31), (0, .nameAndType 32 13), (0, u "TRIGGER"), (0, .fieldref 15 34), (0, .nameAndType 35 19), (0, u "CLR_TRIGGER"), (0, .fieldref 15 37), (0, .nameAndType 32 19), (0, .fieldref 9 39), (0, .nameAndType 40 13), (0, u "VIEW"), (0, .fieldref 15 42), (0, .nameAndType 40 19), (0, .fieldref 9 44), (0, .nameAndType 45 13), (0, u "TABLE"), (0, .fieldref 15 47), (0, .nameAndType 45 19), (0, .fieldref 9 49), (0, .nameAndType 50 13), (0, u "TYPE"), (0, .fieldref 15 52), (0, .nameAndType 50 19), (0, .methodref 9 54), (0, .nameAndType 55 56), (0, u "kind"), (0, u "(Z)Lcom/example/refbound/refbound/catalog/ObjectKind;"), (0, .class_ 58), (0, u "com/example/refbound/refbound/dialect/tsql/ObjectClassKindPinLaw"), (2, u "law"), (0, u "(II)Z")] 3

def k1m0 : Method := { name := "<init>", desc := "()V", sig := { parameters := [], returnType := none }, accessFlags := 2, code := none }
def k1c1 : Code := { maxStack := 2, maxLocals := 6, code := code, exceptionTable := #[], attributes := #[] }
def k1m1 : Method := { name := "law", desc := "(II)Z", sig := { parameters := [.int, .int], returnType := some .boolean }, accessFlags := 9, code := some k1c1 }
/-- com/example/refbound/refbound/dialect/tsql/ObjectClassKindPinLaw -/
def k1 : Class := { plain "com/example/refbound/refbound/dialect/tsql/ObjectClassKindPinLaw" (some 0) with
  accessFlags := 49
  interfaces := #[]
  cf := some (fileOf pool1 57 #[] #[{ accessFlags := 2, nameIndex := 5, descriptorIndex := 6, attributes := #[] }, { accessFlags := 9, nameIndex := 61, descriptorIndex := 62, attributes := #[] }] 49 2 #[] #[])
  fields := #[]
  methods := #[k1m0, k1m1]
  instanceTypes := #[]
  staticTypes := #[]
  resolved := Array.replicate 66 none
  statics := none }

def pool2 : Array CpInfo := pool [(1, .class_ 2), (0, u "java/lang/constant/Constable"), (0, .class_ 4), (0, u "java/lang/Object")] 6

/-- java/lang/constant/Constable -/
def k2 : Class := { plain "java/lang/constant/Constable" (some 0) with
  accessFlags := 1537
  interfaces := #[]
  cf := some (fileOf pool2 1 #[] #[] 1537 3 #[] #[])
  fields := #[]
  methods := #[]
  instanceTypes := #[]
  staticTypes := #[]
  resolved := Array.replicate 11 none
  statics := none }

def pool3 : Array CpInfo := pool [(1, .class_ 2), (0, u "java/lang/Comparable"), (0, .class_ 4), (0, u "java/lang/Object")] 7

/-- java/lang/Comparable -/
def k3 : Class := { plain "java/lang/Comparable" (some 0) with
  accessFlags := 1537
  interfaces := #[]
  cf := some (fileOf pool3 1 #[] #[] 1537 3 #[] #[])
  fields := #[]
  methods := #[]
  instanceTypes := #[]
  staticTypes := #[]
  resolved := Array.replicate 12 none
  statics := none }

def pool4 : Array CpInfo := pool [(1, .class_ 2), (0, u "java/io/Serializable"), (0, .class_ 4), (0, u "java/lang/Object")] 2

/-- java/io/Serializable -/
def k4 : Class := { plain "java/io/Serializable" (some 0) with
  accessFlags := 1537
  interfaces := #[]
  cf := some (fileOf pool4 1 #[] #[] 1537 3 #[] #[])
  fields := #[]
  methods := #[]
  instanceTypes := #[]
  staticTypes := #[]
  resolved := Array.replicate 7 none
  statics := none }

def pool5 : Array CpInfo := pool [(2, .class_ 4), (1, u "java/lang/Enum"), (0, u "name"), (0, u "Ljava/lang/String;"), (2, u "ordinal"), (0, u "I"), (1, .class_ 14), (1, u "java/lang/Object"), (4, u "hash"), (86, .class_ 108), (1, u "java/lang/Enum$EnumDesc"), (2, .class_ 112), (0, u "java/lang/constant/Constable"), (0, .class_ 114), (0, u "java/lang/Comparable"), (0, .class_ 116), (0, u "java/io/Serializable")] 87

/-- java/lang/Enum -/
def k5 : Class := { plain "java/lang/Enum" (some 0) with
  accessFlags := 1057
  interfaces := #[2, 3, 4]
  cf := some (fileOf pool5 2 #[.nestMembers #[106]] #[] 1057 12 #[111, 113, 115] #[{ accessFlags := 18, nameIndex := 5, descriptorIndex := 6, attributes := #[] }, { accessFlags := 18, nameIndex := 9, descriptorIndex := 10, attributes := #[] }, { accessFlags := 2, nameIndex := 19, descriptorIndex := 10, attributes := #[] }])
  fields := #[{ name := "name", type := (.object "java/lang/String"), accessFlags := 18, slot := 0, constantValue := 0 }, { name := "ordinal", type := .int, accessFlags := 18, slot := 1, constantValue := 0 }, { name := "hash", type := .int, accessFlags := 2, slot := 2, constantValue := 0 }]
  methods := #[]
  instanceTypes := #[(.object "java/lang/String"), .int, .int]
  staticTypes := #[]
  resolved := Array.replicate 204 none
  statics := none }

def pool6 : Array CpInfo := pool [(1, .class_ 2), (0, u "com/example/refbound/refbound/dialect/tsql/ObjectClass"), (2, u "PROCEDURE"), (0, u "Lcom/example/refbound/refbound/dialect/tsql/ObjectClass;"), (2, u "FUNCTION"), (2, u "TRIGGER"), (2, u "VIEW"), (2, u "TABLE"), (2, u "TYPE"), (2, u "$VALUES"), (0, u "[Lcom/example/refbound/refbound/dialect/tsql/ObjectClass;"), (6, .class_ 34), (1, u "java/lang/Enum"), (8, u "module"), (0, u "Z"), (0, .fieldref 1 46), (0, .nameAndType 47 48), (0, u "written"), (0, u "Lcom/example/refbound/refbound/catalog/ObjectKind;"), (0, .fieldref 1 50), (0, .nameAndType 51 48), (0, u "external"), (8, u "words"), (0, u "Ljava/util/List;"), (8, u "BY_WORD"), (0, u "Ljava/util/Map;"), (135, u "kind"), (0, u "(Z)Lcom/example/refbound/refbound/catalog/ObjectKind;")] 51

def k6c0 : Code := { maxStack := 1, maxLocals := 2, code := prog_33_method_7_code, exceptionTable := #[], attributes := #[] }
def k6m0 : Method := { name := "kind", desc := "(Z)Lcom/example/refbound/refbound/catalog/ObjectKind;", sig := { parameters := [.boolean], returnType := some (.object "com/example/refbound/refbound/catalog/ObjectKind") }, accessFlags := 0, code := some k6c0 }
/-- com/example/refbound/refbound/dialect/tsql/ObjectClass -/
def k6 : Class := { plain "com/example/refbound/refbound/dialect/tsql/ObjectClass" (some 5) with
  accessFlags := 16432
  interfaces := #[]
  cf := some (fileOf pool6 1 #[] #[{ accessFlags := 0, nameIndex := 207, descriptorIndex := 208, attributes := #[] }] 16432 32 #[] #[{ accessFlags := 16409, nameIndex := 5, descriptorIndex := 6, attributes := #[] }, { accessFlags := 16409, nameIndex := 9, descriptorIndex := 6, attributes := #[] }, { accessFlags := 16409, nameIndex := 12, descriptorIndex := 6, attributes := #[] }, { accessFlags := 16409, nameIndex := 15, descriptorIndex := 6, attributes := #[] }, { accessFlags := 16409, nameIndex := 18, descriptorIndex := 6, attributes := #[] }, { accessFlags := 16409, nameIndex := 21, descriptorIndex := 6, attributes := #[] }, { accessFlags := 26, nameIndex := 70, descriptorIndex := 71, attributes := #[] }, { accessFlags := 18, nameIndex := 43, descriptorIndex := 44, attributes := #[] }, { accessFlags := 18, nameIndex := 47, descriptorIndex := 48, attributes := #[] }, { accessFlags := 18, nameIndex := 51, descriptorIndex := 48, attributes := #[] }, { accessFlags := 18, nameIndex := 60, descriptorIndex := 61, attributes := #[] }, { accessFlags := 4122, nameIndex := 24, descriptorIndex := 25, attributes := #[] }])
  fields := #[{ name := "PROCEDURE", type := (.object "com/example/refbound/refbound/dialect/tsql/ObjectClass"), accessFlags := 16409, slot := 0, constantValue := 0 }, { name := "FUNCTION", type := (.object "com/example/refbound/refbound/dialect/tsql/ObjectClass"), accessFlags := 16409, slot := 1, constantValue := 0 }, { name := "TRIGGER", type := (.object "com/example/refbound/refbound/dialect/tsql/ObjectClass"), accessFlags := 16409, slot := 2, constantValue := 0 }, { name := "VIEW", type := (.object "com/example/refbound/refbound/dialect/tsql/ObjectClass"), accessFlags := 16409, slot := 3, constantValue := 0 }, { name := "TABLE", type := (.object "com/example/refbound/refbound/dialect/tsql/ObjectClass"), accessFlags := 16409, slot := 4, constantValue := 0 }, { name := "TYPE", type := (.object "com/example/refbound/refbound/dialect/tsql/ObjectClass"), accessFlags := 16409, slot := 5, constantValue := 0 }, { name := "BY_WORD", type := (.object "java/util/Map"), accessFlags := 26, slot := 6, constantValue := 0 }, { name := "module", type := .boolean, accessFlags := 18, slot := 3, constantValue := 0 }, { name := "written", type := (.object "com/example/refbound/refbound/catalog/ObjectKind"), accessFlags := 18, slot := 4, constantValue := 0 }, { name := "external", type := (.object "com/example/refbound/refbound/catalog/ObjectKind"), accessFlags := 18, slot := 5, constantValue := 0 }, { name := "words", type := (.object "java/util/List"), accessFlags := 18, slot := 6, constantValue := 0 }, { name := "$VALUES", type := (.array (.object "com/example/refbound/refbound/dialect/tsql/ObjectClass")), accessFlags := 4122, slot := 7, constantValue := 0 }]
  methods := #[k6m0]
  instanceTypes := #[(.object "java/lang/String"), .int, .int, .boolean, (.object "com/example/refbound/refbound/catalog/ObjectKind"), (.object "com/example/refbound/refbound/catalog/ObjectKind"), (.object "java/util/List")]
  staticTypes := #[(.object "com/example/refbound/refbound/dialect/tsql/ObjectClass"), (.object "com/example/refbound/refbound/dialect/tsql/ObjectClass"), (.object "com/example/refbound/refbound/dialect/tsql/ObjectClass"), (.object "com/example/refbound/refbound/dialect/tsql/ObjectClass"), (.object "com/example/refbound/refbound/dialect/tsql/ObjectClass"), (.object "com/example/refbound/refbound/dialect/tsql/ObjectClass"), (.object "java/util/Map"), (.array (.object "com/example/refbound/refbound/dialect/tsql/ObjectClass"))]
  resolved := Array.replicate 260 none
  statics := some 0 }

def pool7 : Array CpInfo := pool [(1, .class_ 2), (0, u "com/example/refbound/refbound/catalog/ObjectKind"), (2, u "TABLE"), (0, u "Lcom/example/refbound/refbound/catalog/ObjectKind;"), (2, u "VIEW"), (2, u "PROCEDURE"), (2, u "CLR_PROCEDURE"), (2, u "FUNCTION"), (2, u "CLR_FUNCTION"), (2, u "TRIGGER"), (2, u "CLR_TRIGGER"), (2, u "TYPE"), (2, u "$VALUES"), (0, u "[Lcom/example/refbound/refbound/catalog/ObjectKind;"), (6, .class_ 43), (1, u "java/lang/Enum")] 34

/-- com/example/refbound/refbound/catalog/ObjectKind -/
def k7 : Class := { plain "com/example/refbound/refbound/catalog/ObjectKind" (some 5) with
  accessFlags := 16433
  interfaces := #[]
  cf := some (fileOf pool7 1 #[] #[] 16433 41 #[] #[{ accessFlags := 16409, nameIndex := 5, descriptorIndex := 6, attributes := #[] }, { accessFlags := 16409, nameIndex := 9, descriptorIndex := 6, attributes := #[] }, { accessFlags := 16409, nameIndex := 12, descriptorIndex := 6, attributes := #[] }, { accessFlags := 16409, nameIndex := 15, descriptorIndex := 6, attributes := #[] }, { accessFlags := 16409, nameIndex := 18, descriptorIndex := 6, attributes := #[] }, { accessFlags := 16409, nameIndex := 21, descriptorIndex := 6, attributes := #[] }, { accessFlags := 16409, nameIndex := 24, descriptorIndex := 6, attributes := #[] }, { accessFlags := 16409, nameIndex := 27, descriptorIndex := 6, attributes := #[] }, { accessFlags := 16409, nameIndex := 30, descriptorIndex := 6, attributes := #[] }, { accessFlags := 4122, nameIndex := 33, descriptorIndex := 34, attributes := #[] }])
  fields := #[{ name := "TABLE", type := (.object "com/example/refbound/refbound/catalog/ObjectKind"), accessFlags := 16409, slot := 0, constantValue := 0 }, { name := "VIEW", type := (.object "com/example/refbound/refbound/catalog/ObjectKind"), accessFlags := 16409, slot := 1, constantValue := 0 }, { name := "PROCEDURE", type := (.object "com/example/refbound/refbound/catalog/ObjectKind"), accessFlags := 16409, slot := 2, constantValue := 0 }, { name := "CLR_PROCEDURE", type := (.object "com/example/refbound/refbound/catalog/ObjectKind"), accessFlags := 16409, slot := 3, constantValue := 0 }, { name := "FUNCTION", type := (.object "com/example/refbound/refbound/catalog/ObjectKind"), accessFlags := 16409, slot := 4, constantValue := 0 }, { name := "CLR_FUNCTION", type := (.object "com/example/refbound/refbound/catalog/ObjectKind"), accessFlags := 16409, slot := 5, constantValue := 0 }, { name := "TRIGGER", type := (.object "com/example/refbound/refbound/catalog/ObjectKind"), accessFlags := 16409, slot := 6, constantValue := 0 }, { name := "CLR_TRIGGER", type := (.object "com/example/refbound/refbound/catalog/ObjectKind"), accessFlags := 16409, slot := 7, constantValue := 0 }, { name := "TYPE", type := (.object "com/example/refbound/refbound/catalog/ObjectKind"), accessFlags := 16409, slot := 8, constantValue := 0 }, { name := "$VALUES", type := (.array (.object "com/example/refbound/refbound/catalog/ObjectKind")), accessFlags := 4122, slot := 9, constantValue := 0 }]
  methods := #[]
  instanceTypes := #[(.object "java/lang/String"), .int, .int]
  staticTypes := #[(.object "com/example/refbound/refbound/catalog/ObjectKind"), (.object "com/example/refbound/refbound/catalog/ObjectKind"), (.object "com/example/refbound/refbound/catalog/ObjectKind"), (.object "com/example/refbound/refbound/catalog/ObjectKind"), (.object "com/example/refbound/refbound/catalog/ObjectKind"), (.object "com/example/refbound/refbound/catalog/ObjectKind"), (.object "com/example/refbound/refbound/catalog/ObjectKind"), (.object "com/example/refbound/refbound/catalog/ObjectKind"), (.object "com/example/refbound/refbound/catalog/ObjectKind"), (.array (.object "com/example/refbound/refbound/catalog/ObjectKind"))]
  resolved := Array.replicate 78 none
  statics := some 1 }

def pool8 : Array CpInfo := pool [(1, u "java/lang/Cloneable"), (0, .class_ 1), (0, u "java/lang/Object"), (0, .class_ 3)] 3

/-- java/lang/Cloneable -/
def k8 : Class := { plain "java/lang/Cloneable" (some 0) with
  accessFlags := 1537
  interfaces := #[]
  cf := some (fileOf pool8 2 #[] #[] 1537 4 #[] #[])
  fields := #[]
  methods := #[]
  instanceTypes := #[]
  staticTypes := #[]
  resolved := Array.replicate 8 none
  statics := none }

/-- the primitive byte -/
def k9 : Class := { plain "byte" none with kind := .primitive 'B', accessFlags := 0x411 }
/-- [B -/
def k10 : Class := { plain "[B" (some 0) with kind := .array 9 .byte, interfaces := #[8, 4], accessFlags := 1041 }

/-- the primitive int -/
def k11 : Class := { plain "int" none with kind := .primitive 'I', accessFlags := 0x411 }
/-- [I -/
def k12 : Class := { plain "[I" (some 0) with kind := .array 11 .int, interfaces := #[8, 4], accessFlags := 1041 }

def heap : Heap := #[{ cls := 6, slots := #[.ref 2, .ref 9, .ref 4, .ref 14, .ref 7, .ref 12, .null, .null], vm := .statics 6 },
  { cls := 7, slots := #[.ref 8, .ref 15, .ref 11, .ref 3, .ref 16, .ref 10, .ref 6, .ref 5, .ref 13, .null], vm := .statics 7 },
  { cls := 6, slots := #[.null, .int 0, .int 0, .int 0, .ref 11, .ref 3, .null], vm := .none },
  { cls := 7, slots := #[.null, .int 0, .int 0], vm := .none },
  { cls := 6, slots := #[.null, .int 0, .int 0, .int 0, .ref 6, .ref 5, .null], vm := .none },
  { cls := 7, slots := #[.null, .int 0, .int 0], vm := .none },
  { cls := 7, slots := #[.null, .int 0, .int 0], vm := .none },
  { cls := 6, slots := #[.null, .int 0, .int 0, .int 0, .ref 8, .ref 8, .null], vm := .none },
  { cls := 7, slots := #[.null, .int 0, .int 0], vm := .none },
  { cls := 6, slots := #[.null, .int 0, .int 0, .int 0, .ref 16, .ref 10, .null], vm := .none },
  { cls := 7, slots := #[.null, .int 0, .int 0], vm := .none },
  { cls := 7, slots := #[.null, .int 0, .int 0], vm := .none },
  { cls := 6, slots := #[.null, .int 0, .int 0, .int 0, .ref 13, .ref 13, .null], vm := .none },
  { cls := 7, slots := #[.null, .int 0, .int 0], vm := .none },
  { cls := 6, slots := #[.null, .int 0, .int 0, .int 0, .ref 15, .ref 15, .null], vm := .none },
  { cls := 7, slots := #[.null, .int 0, .int 0], vm := .none },
  { cls := 7, slots := #[.null, .int 0, .int 0], vm := .none }]
def classes : Array Class := #[k0, k1, k2, k3, k4, k5, k6, k7, k8, k9, k10, k11, k12]
def interned : List (Array UInt16 × Addr) := []
def slotsUsed : Nat := 87
def theMethod : MethodId := ⟨1, 1⟩
def args0 : Array Value := #[.int 5, .int 3]
def aboutOver (below : List Frame) : State where
  vm := { classes := classes, interned := interned.toArray }
  heap := heap
  slotsUsed := slotsUsed
  threads := #[{ frames := .invoking theMethod args0 :: below }]
def below0 : List Frame := [.native { method := ⟨0, 0⟩, args := #[] }]
def about1 : State := aboutOver below0
def p0 : Program := .bare "" "" ""
def e0 : Env := launch0.env 0 0 0
theorem w_frames : about1.frames = Frame.invoking theMethod args0 :: below0 := rfl
set_option maxRecDepth 65536 in
theorem w_args : argsFit about1.vm theMethod args0 = true := by decide +kernel
set_option maxRecDepth 65536 in
theorem w_heap : heapFits about1 = true := by decide +kernel
set_option maxRecDepth 65536 in
theorem w_runnable : about1.curStatus? = some .runnable := by decide +kernel
set_option maxRecDepth 65536 in
theorem w_alone : about1.alone = true := by decide +kernel
set_option maxRecDepth 65536 in
theorem w_named : about1.methodNamed? x = some theMethod := by decide +kernel
set_option maxRecDepth 65536 in
theorem w_hears : about1.hears theMethod below0 = true := by decide +kernel
set_option maxRecDepth 65536 in
theorem w_ripe : about1.ripe theMethod args0 below0 = true := by decide +kernel
theorem w_running : about1.status = .running := rfl
set_option maxRecDepth 65536 in
theorem w_room : about1.hasRoom e0.platform room_1 = true :=
  launch0.hasRoom_least _ room_1 (by decide +kernel) (by decide +kernel) (by decide +kernel) (by decide +kernel) (by decide +kernel) (by decide +kernel)
theorem allAtoms_all (ts : List Jvm.Cond) (a : Array Jvm.Value) (st : Jvm.State) : (allAtoms ts).before a st = ts.all (fun c => c.before a st) := by
  induction ts with
  | nil => rfl
  | cons c t ih =>
    show (Jvm.Cond.and c (allAtoms t)).before a st = _
    rw [Jvm.Cond.before_and, ih, List.all_cons]
def words1 : List Jvm.Cond := Jvm.Cond.code x code maxLocals ret :: tables_1
/-- a 'code' word, met by the world's own term for the bytes: nothing is compared byte by byte -/
theorem code_word {y : MethodName} {bytes : ByteArray} {mx : Nat} {rt : Option FieldType} {a : Array Value} {s : State} {m : MethodId} {meth : Method} {c : Code} (h1 : s.methodNamed? y = some m) (h2 : s.vm.method? m = some meth) (h3 : meth.code = some c) (h4 : c.code = bytes)
    (h5 : (c.maxLocals == mx && c.exceptionTable.isEmpty && decide (c.maxStack ≤ mostOperands) && decide (meth.sig.returnType = rt) && !meth.locks && decide (parseMethodDescriptor y.desc = some meth.sig)) = true) : (Jvm.Cond.code y bytes mx rt).before a s = true := by
  simp only [Bool.and_eq_true, beq_iff_eq, Bool.not_eq_true', decide_eq_true_eq] at h5
  obtain ⟨⟨⟨⟨⟨g1, g2⟩, g3⟩, g4⟩, g5⟩, g6⟩ := h5
  simp [Cond.before, Cond.holds, Cond.value, h1, h2, h3, h4, g1, g2, g3, g4, g5, g6]
def isCode : Jvm.Cond → Bool
  | .code _ _ _ _ => true
  | _ => false
theorem all_split {L : List Jvm.Cond} {P : Jvm.Cond → Bool} (h1 : L.all (fun c => isCode c || P c) = true) (h2 : ∀ c ∈ L.filter isCode, P c = true) : L.all P = true := by
  refine List.all_eq_true.mpr fun c hc => ?_
  have h := List.all_eq_true.mp h1 c hc
  rcases Bool.eq_false_or_eq_true (isCode c) with hi | hi
  · exact h2 c (List.mem_filter.mpr ⟨hc, hi⟩)
  · simpa [hi] using h
set_option maxRecDepth 65536 in
theorem w_c0 : (Jvm.Cond.code x code maxLocals ret).before args0 about1 = true := code_word (m := ⟨1, 1⟩) (meth := k1m1) (c := k1c1) (by decide +kernel) rfl rfl rfl (by decide +kernel)
set_option maxRecDepth 65536 in
theorem w_c1 : (Jvm.Cond.code ({ cls := "com/example/refbound/refbound/dialect/tsql/ObjectClass", name := "kind", desc := "(Z)Lcom/example/refbound/refbound/catalog/ObjectKind;" } : Jvm.MethodName) prog_33_method_7_code (2 : Nat) (Option.some (Jvm.ClassFile.FieldType.object "com/example/refbound/refbound/catalog/ObjectKind"))).before args0 about1 = true := code_word (m := ⟨6, 0⟩) (meth := k6m0) (c := k6c0) (by decide +kernel) rfl rfl rfl (by decide +kernel)
def codes1 : List Jvm.Cond := [Jvm.Cond.code x code maxLocals ret, Jvm.Cond.code ({ cls := "com/example/refbound/refbound/dialect/tsql/ObjectClass", name := "kind", desc := "(Z)Lcom/example/refbound/refbound/catalog/ObjectKind;" } : Jvm.MethodName) prog_33_method_7_code (2 : Nat) (Option.some (Jvm.ClassFile.FieldType.object "com/example/refbound/refbound/catalog/ObjectKind"))]
set_option maxRecDepth 65536 in
theorem codes_eq : words1.filter isCode = codes1 := rfl
theorem w_codes : ∀ c ∈ words1.filter isCode, c.before args0 about1 = true := by
  rw [codes_eq]
  intro c hc
  simp only [codes1, List.mem_cons, List.not_mem_nil, or_false] at hc
  rcases hc with rfl | rfl
  · exact w_c0
  · exact w_c1
set_option maxRecDepth 65536 in
theorem w_t1 : (words1.take 24).all (fun c => isCode c || c.before args0 about1) = true := by decide +kernel
set_option maxRecDepth 65536 in
theorem w_t2 : (words1.drop 24).all (fun c => isCode c || c.before args0 about1) = true := by decide +kernel
theorem w_tables : (allAtoms (Jvm.Cond.code x code maxLocals ret :: tables_1)).before args0 about1 = true := by
  rw [allAtoms_all]
  show words1.all (fun c => c.before args0 about1) = true
  refine all_split ?_ w_codes
  rw [← List.take_append_drop 24 words1, List.all_append, w_t1, w_t2]
  rfl
set_option maxRecDepth 65536 in
theorem w_case : (Jvm.Cond.and given_1 narrow_1).before args0 about1 = true := by decide +kernel
theorem w_applies : (headSpec (Jvm.Cond.code x code maxLocals ret :: tables_1) room_1).applies x e0.platform about1 = true :=
  (Spec.applies_iff w_frames).mpr ⟨w_running, w_runnable, w_alone, w_named, w_hears, w_ripe, w_room, w_tables⟩
theorem atStart : AtStart classFile x code maxLocals ret World_1 tables_1 room_1 Calls_1 rest_1 Pre_1 launch0 p0 e0 about1 theMethod args0 below0 :=
  ⟨lists_1, trivial, launch0.admits_env _ _ _, launch0.least_env, fairChoices_fair.cas, fairChoices_fair.clock, w_frames, w_args, w_heap, w_applies, trivial, trivial, w_case⟩
end start1
theorem witness_1 : WitnessClaimed_1 := ⟨start1.p0, start1.e0, start1.about1, start1.theMethod, start1.args0, start1.below0, start1.atStart⟩
end Jvm.Pilot.@@N@@
