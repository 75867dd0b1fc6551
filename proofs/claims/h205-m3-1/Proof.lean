import JvmDerived
import JvmDerived.Pilot.@@N@@Statement
import JvmDerived.Pilot.@@N@@Code
set_option linter.unusedVariables false
set_option linter.unusedSimpArgs false
@@BLOCK:NumsL.lean.txt@@
namespace Jvm.Pilot.@@N@@
open Jvm Jvm.ClassFile Sem Op Lib Jvm.Free Jvm.Stand Jvm.LawKit Jvm.RoadKit Bundle Jvm.Pilot.@@N@@.Jvm.D
/-- two roads that come together: the rest is shown once, for every state and value with which they come -/
theorem own_join {p : Program} {l : Launch} {e : Env} {R : Room} {s : State} {m : MethodId} {args : Array Value} {below : List Frame} {meth : Method} {c : Code} {T : State} {locs : List Loc} {cells slots : Nat} {A : State} {P : State → Outcome → Prop}
    (X : Stand p l e R s m args below meth c T locs cells slots) {ι : Type} (Φ : ι → State → Prop) (B : ι → JFrame)
    (rest : ∀ i T', Stand p l e R s m args below meth c T' locs cells slots → Φ i T' → ∃ s₂ o, Steps p.tables e below (T'.setTop (B i)) s₂ ∧ P s₂ o)
    (come : (∀ i T', Stand p l e R s m args below meth c T' locs cells slots → Φ i T' → ∃ s₂ o, Steps p.tables e below (T'.setTop (B i)) s₂ ∧ P s₂ o) → ∃ s₂ o, Steps p.tables e below A s₂ ∧ P s₂ o) : ∃ s₂ o, Steps p.tables e below A s₂ ∧ P s₂ o := come rest
theorem own_joinH {p : Program} {l : Launch} {e : Env} {R : Room} {s : State} {m : MethodId} {args : Array Value} {below : List Frame} {meth : Method} {c : Code} {T : State} {locs : List Loc} {cells slots n0 : Nat} {A : State} {P : State → Outcome → Prop}
    (X : Stand p l e R s m args below meth c T locs cells slots) (N : Fr n0 locs) {ι : Type} (cells' slots' : Nat) (Φ : ι → Heap → Prop) (B : ι → JFrame)
    (rest : ∀ i T' locs', Stand p l e R s m args below meth c T' locs' cells' slots' → Fr n0 locs' → Φ i T'.heap → ∃ s₂ o, Steps p.tables e below (T'.setTop (B i)) s₂ ∧ P s₂ o)
    (come : (∀ i T' locs', Stand p l e R s m args below meth c T' locs' cells' slots' → Fr n0 locs' → Φ i T'.heap → ∃ s₂ o, Steps p.tables e below (T'.setTop (B i)) s₂ ∧ P s₂ o) → ∃ s₂ o, Steps p.tables e below A s₂ ∧ P s₂ o) : ∃ s₂ o, Steps p.tables e below A s₂ ∧ P s₂ o := come rest
theorem own_mono {p : Program} {l : Launch} {e : Env} {R : Room} {s : State} {m : MethodId} {args : Array Value} {below : List Frame} {meth : Method} {c : Code} {T : State} {locs : List Loc} {cells slots cells' slots' : Nat}
    (X : Stand p l e R s m args below meth c T locs cells slots) (h1 : cells ≤ cells') (h2 : slots ≤ slots') : Stand p l e R s m args below meth c T locs cells' slots' := { X with same := X.same.mono h1 h2 }
theorem own_sta_keep {Z : State} {h h' : Heap} {C n d : String} {v : Value} {ws : List Addr} (F : Sta Z h C n d v) (K : Keep h h' ws) (q : ∀ x ∈ ws, ∀ c : Cell, h[x]? = some c → c.vm.isStatics = false) : Sta Z h' C n d v := by
  obtain ⟨cf, i, k, f, st, cell, h1, h2, h3, h4, h5, h6, h7⟩ := F
  refine ⟨cf, i, k, f, st, cell, h1, h2, h3, h4, K.2.1 st cell h5 fun hm => ?_, h6, h7⟩
  rw [q st hm cell h5] at h6
  cases h6
theorem own_plain_E {Z : State} {h : Heap} {a : Addr} {C : String} (F : Exa Z h a C) : ∀ c : Cell, h[a]? = some c → c.vm.isStatics = false := by
  obtain ⟨cell, k, h1, h2, h3, h4, h5⟩ := F
  intro c hc
  cases h1.symm.trans hc
  exact h4
theorem own_plain_V {Z : State} {h : Heap} {a : Addr} {k : ClassId} {ty : FieldType} {n : Int32} {vs : List Value} {d : Value} (F : Arv Z h a k ty n vs d) : ∀ c : Cell, h[a]? = some c → c.vm.isStatics = false := by
  obtain ⟨cell, A, -⟩ := F
  intro c hc
  cases A.1.symm.trans hc
  exact A.plain
/-- a stretch of the road, then the rest -/
theorem own_go {tb : Tables} {e : Env} {below : List Frame} {A B : State} {P : State → Outcome → Prop} (h : ∀ t, Steps tb e below B t → Steps tb e below A t) (k : ∃ s₂ o, Steps tb e below B s₂ ∧ P s₂ o) : ∃ s₂ o, Steps tb e below A s₂ ∧ P s₂ o := by
  obtain ⟨s₂, o, h1, h2⟩ := k
  exact ⟨s₂, o, h s₂ h1, h2⟩
theorem own_eqI {args : Array Value} {first s : State} {o : Option Outcome} {idx : List Nat} {t : Term} {k : Int32} (h : (Jvm.Cond.eq t (.int k)).value args first o s idx = some true) : t.eval args first o idx s = some (.int k) := by
  simp only [Jvm.Cond.value, Term.eval] at h
  cases ht : t.eval args first o idx s with
  | none => simp [ht] at h
  | some x => cases x <;> simp [ht] at h ⊢; exact h
theorem own_eqJ {args : Array Value} {first s : State} {o : Option Outcome} {idx : List Nat} {t : Term} {k : Int64} (h : (Jvm.Cond.eq t (.long k)).value args first o s idx = some true) : t.eval args first o idx s = some (.long k) := by
  simp only [Jvm.Cond.value, Term.eval] at h
  cases ht : t.eval args first o idx s with
  | none => simp [ht] at h
  | some x => cases x <;> simp [ht] at h ⊢; exact h
theorem own_eqR {args : Array Value} {first s : State} {o : Option Outcome} {idx : List Nat} {t u : Term} {a : Addr} (h : (Jvm.Cond.eq t u).value args first o s idx = some true) (hu : u.eval args first o idx s = some (.ref a)) : t.eval args first o idx s = some (.ref a) := by
  simp only [Jvm.Cond.value] at h
  cases ht : t.eval args first o idx s with
  | none => simp [ht] at h
  | some x => cases x <;> simp [ht, hu] at h ⊢; exact h
theorem own_mod9 (x : Int32) : (x &&& (2147483647 : Int32)) % (9 : Int32) = (0 : Int32) ∨ (x &&& (2147483647 : Int32)) % (9 : Int32) = (1 : Int32) ∨ (x &&& (2147483647 : Int32)) % (9 : Int32) = (2 : Int32) ∨ (x &&& (2147483647 : Int32)) % (9 : Int32) = (3 : Int32) ∨ (x &&& (2147483647 : Int32)) % (9 : Int32) = (4 : Int32) ∨ (x &&& (2147483647 : Int32)) % (9 : Int32) = (5 : Int32) ∨ (x &&& (2147483647 : Int32)) % (9 : Int32) = (6 : Int32) ∨ (x &&& (2147483647 : Int32)) % (9 : Int32) = (7 : Int32) ∨ (x &&& (2147483647 : Int32)) % (9 : Int32) = (8 : Int32) := by
  have hm : (x &&& (2147483647 : Int32)).toInt = x.toInt % 2 ^ 31 := Jvm.Kit.i32_mask x 2147483647 (k := 31) (by decide) (by decide)
  have h : ((x &&& (2147483647 : Int32)) % (9 : Int32)).toInt = (x.toInt % 2 ^ 31) % 9 := by
    rw [Int32.toInt_mod, hm]
    exact Int.tmod_eq_emod_of_nonneg (by omega)
  simp only [← Int32.toInt_inj, h, Int32.reduceToInt]
  omega
theorem ef_1 (m : MethodId) (r0 : Addr) : entryFrame m #[(.ref r0)] 1 = mkF m 0 #[.val (.ref r0)] [] := by first | (simp [entryFrame, mkF, argsToLocals, Value.category]; done) | rfl
theorem pn_1 : plainName "com/example/refbound/refbound/catalog/ObjectKind" = true := by first | (simp [plainName, overriddenIn]; done) | decide +kernel
abbrev LS_R (a0 : Addr) : Array Slot := #[.val (.ref a0)]
theorem d1_0 : decode prog_16_method_4_code 0 = .ok (.aload_n 0, 1) := by decide +kernel
theorem d1_1 : decode prog_16_method_4_code 1 = .ok (.getstatic 28, 3) := by decide +kernel
theorem d1_4 : decode prog_16_method_4_code 4 = .ok (.if_acmp .ne 7, 3) := by decide +kernel
theorem d1_7 : decode prog_16_method_4_code 7 = .ok (.iconst 1, 1) := by decide +kernel
theorem d1_8 : decode prog_16_method_4_code 8 = .ok (.goto 4, 3) := by decide +kernel
theorem d1_12 : decode prog_16_method_4_code 12 = .ok (.ireturn, 1) := by decide +kernel
theorem d1_11 : decode prog_16_method_4_code 11 = .ok (.iconst 0, 1) := by decide +kernel
def Q1 (Z : State) (r0 : Addr) (wT : Addr) (h0 : Heap) (n0 : Nat) (v : Option Value) (h : Heap) (L : List Loc) : Prop := v = some (.int (if r0 = wT then (1 : Int32) else (0 : Int32))) ∧ Fr n0 L ∧ h = h0
set_option maxRecDepth 65536 in
set_option maxHeartbeats 40000000 in
theorem rm1 (l : Launch) (Z : State) (a0 : Array Value) (hw : ∀ d ∈ tables_1, d.before a0 Z = true) (ws : List Jvm.Cond) (r0 : Addr) (wT : Addr) (h0 : Heap) (n0 : Nat) (Z0 : n0 ≤ h0.size) (S_TYPE : Sta Z h0 "com/example/refbound/refbound/catalog/ObjectKind" "TYPE" "Lcom/example/refbound/refbound/catalog/ObjectKind;" (.ref wT)) :
    MetFree l (⟨"com/example/refbound/refbound/catalog/ObjectKind", "isType", "()Z"⟩ : MethodName) (head1 (Jvm.Cond.code (⟨"com/example/refbound/refbound/catalog/ObjectKind", "isType", "()Z"⟩ : MethodName) prog_16_method_4_code 1 (some .boolean) :: ws) ({ frames := 0, cells := 0, slots := 0, locals := 0 } : Room)) (fun a U => a = #[(.ref r0)] ∧ Z.Warmed39 U.vm ∧ U.heap = h0) (fun _ _ _ _ _ => True) (fun _ U o U' => ∃ v L, o = .returned v ∧ Q1 Z r0 wT h0 n0 v U'.heap L ∧ FrameEnd U o U' L ({ frames := 0, cells := 0, slots := 0, locals := 0 } : Room).cells ({ frames := 0, cells := 0, slots := 0, locals := 0 } : Room).slots) := by
  refine MetFree.of_bodySF (plainFor_of_name pn_1) hisR ?_
  intro p e s m args below meth c s₁ Bd hml0 hP hK
  obtain ⟨rfl, hZ, hh⟩ := hP
  have hx := Bd.exec
  have hby := Bd.bytes
  have hml : c.maxLocals = 1 := hml0
  have hown : s.vm.findClass "com/example/refbound/refbound/catalog/ObjectKind" = some m.cls := findClass_of_methodNamed Bd.named
  have hnm := (name_of_methodNamed Bd.named Bd.method).1
  have X0 : Stand p l e ({ frames := 0, cells := 0, slots := 0, locals := 0 } : Room) s m #[(.ref r0)] below meth c s₁ [] 0 0 := Stand.of_body Bd
  have e0 : s₁.heap = h0 := by rw [← hh, Bd.state]; rfl
  have N0 := Fr.nil n0
  refine own_go (B := s₁.setTop (mkF m 0 (LS_R r0) [])) (fun t k => castTop (ef_1 m r0) k) ?_
  refine own_go (B := s₁.setTop (mkF m 1 (LS_R r0) [(.ref r0)])) (fun t k => ?_) ?_
  · show Steps p.tables e below (s₁.setTop (mkF m 0 (LS_R r0) [])) _
    refine XS.aloadN X0.here hx rfl (hb hby d1_0) rfl rfl ?_
    exact k
  obtain ⟨T1, X1, e1, st1⟩ := getS2 X0 hx hZ hown (host := "") (Or.inl (hw _ (List.mem_of_getElem? (i := 9) rfl))) Via.refl e0 S_TYPE (g := (mkF m 1 (LS_R r0) [(.ref r0)])) rfl (hb hby d1_1)
  refine own_go (B := T1.setTop (mkF m 4 (LS_R r0) [(.ref wT), (.ref r0)])) (fun t k => st1 _ k) ?_
  by_cases hc4_2 : r0 = wT
  · refine own_go (B := T1.setTop (mkF m 12 (LS_R r0) [(.int (1 : Int32))])) (fun t k => ?_) ?_
    · show Steps p.tables e below (T1.setTop (mkF m 4 (LS_R r0) [(.ref wT), (.ref r0)])) _
      refine Jvm.RoadKit.acmp (g := (mkF m 4 (LS_R r0) [(.ref wT), (.ref r0)])) X1 hx rfl rfl rfl (pc0 := 4) (pc' := 7) (same := true) rfl (hb hby d1_4) rfl (decide_eq_true (congrArg Value.ref hc4_2)) (by decide) (by decide) ?_
      show Steps p.tables e below (T1.setTop (mkF m 7 (LS_R r0) [])) _
      refine XS.iconst X1.here hx rfl (hb hby d1_7) ?_
      show Steps p.tables e below (T1.setTop (mkF m 8 (LS_R r0) [(.int (1 : Int32))])) _
      refine XS.goto X1.here hx rfl (pc0 := 8) (pc' := 12) rfl (hb hby d1_8) (by decide) (by decide) ?_
      exact k
    obtain ⟨fs, hr, hrun, hended, hW, hsame⟩ := X1.leave (v := some (.int (1 : Int32))) (fun h => by rw [Bd.returns] at h; cases h)
    refine ⟨_, _, ?_, hrun, hended, _, _, rfl, ?_, ⟨_, rfl⟩, hW, hsame.mono (by decide) (by decide)⟩
    · show Steps p.tables e below (T1.setTop (mkF m 12 (LS_R r0) [(.int (1 : Int32))])) _
      exact retN X1 hx (t := .boolean) Bd.returns (by simp) (hb hby d1_12) hr
    · show Q1 Z r0 wT h0 n0 _ T1.heap _
      rw [e1]
      exact ⟨by rw [if_pos hc4_2], N0, rfl⟩
  · refine own_go (B := T1.setTop (mkF m 12 (LS_R r0) [(.int (0 : Int32))])) (fun t k => ?_) ?_
    · show Steps p.tables e below (T1.setTop (mkF m 4 (LS_R r0) [(.ref wT), (.ref r0)])) _
      refine Jvm.RoadKit.acmp (g := (mkF m 4 (LS_R r0) [(.ref wT), (.ref r0)])) X1 hx rfl rfl rfl (pc0 := 4) (pc' := 11) (same := false) rfl (hb hby d1_4) rfl (decide_eq_false fun q => hc4_2 (Value.ref.inj q)) (by decide) (by decide) ?_
      show Steps p.tables e below (T1.setTop (mkF m 11 (LS_R r0) [])) _
      refine XS.iconst X1.here hx rfl (hb hby d1_11) ?_
      exact k
    obtain ⟨fs, hr, hrun, hended, hW, hsame⟩ := X1.leave (v := some (.int (0 : Int32))) (fun h => by rw [Bd.returns] at h; cases h)
    refine ⟨_, _, ?_, hrun, hended, _, _, rfl, ?_, ⟨_, rfl⟩, hW, hsame.mono (by decide) (by decide)⟩
    · show Steps p.tables e below (T1.setTop (mkF m 12 (LS_R r0) [(.int (0 : Int32))])) _
      exact retN X1 hx (t := .boolean) Bd.returns (by simp) (hb hby d1_12) hr
    · show Q1 Z r0 wT h0 n0 _ T1.heap _
      rw [e1]
      exact ⟨by rw [if_neg hc4_2], N0, rfl⟩
theorem ef_0 (m : MethodId) (p0 : Int32) : entryFrame m #[(.int p0)] maxLocals = mkF m 0 #[.val (.int p0), .unset, .unset, .unset] [] := by first | (simp [entryFrame, mkF, argsToLocals, Value.category, maxLocals]; done) | rfl
theorem pn_0 : plainName "com/example/refbound/refbound/catalog/ObjectKindIsTypePinLaw" = true := by first | (simp [plainName, overriddenIn]; done) | decide +kernel
abbrev LS_Iuuu (a0 : Int32) : Array Slot := #[.val (.int a0), .unset, .unset, .unset]
abbrev LS_IIuu (a0 : Int32) (a1 : Int32) : Array Slot := #[.val (.int a0), .val (.int a1), .unset, .unset]
abbrev LS_IIRu (a0 : Int32) (a1 : Int32) (a2 : Addr) : Array Slot := #[.val (.int a0), .val (.int a1), .val (.ref a2), .unset]
abbrev LS_IIRI (a0 : Int32) (a1 : Int32) (a2 : Addr) (a3 : Int32) : Array Slot := #[.val (.int a0), .val (.int a1), .val (.ref a2), .val (.int a3)]
theorem pd___Z : parseMethodDescriptor "()Z" = some ⟨[], some .boolean⟩ := by decide +kernel
def Q0 (Z : State) (p0 : Int32) (w_ObjectKind_TABLE : Addr) (w_ObjectKind_TYPE : Addr) (w_ObjectKind_CLR_PROCEDURE : Addr) (w_ObjectKind_PROCEDURE : Addr) (w_ObjectKind_VIEW : Addr) (w_ObjectKind_CLR_TRIGGER : Addr) (w_ObjectKind_FUNCTION : Addr) (w_ObjectKind_TRIGGER : Addr) (w_ObjectKind_CLR_FUNCTION : Addr) (h0 : Heap) (n0 : Nat) (v : Option Value) (h : Heap) (L : List Loc) : Prop := v = some (.int (1 : Int32)) ∧ Fr n0 L
set_option maxRecDepth 65536 in
set_option maxHeartbeats 40000000 in
theorem rm0 (l : Launch) (Z : State) (a0 : Array Value) (hw : ∀ d ∈ tables_1, d.before a0 Z = true) (ws : List Jvm.Cond) (p0 : Int32) (w_ObjectKind_TABLE : Addr) (w_ObjectKind_TYPE : Addr) (w_ObjectKind_CLR_PROCEDURE : Addr) (w_ObjectKind_PROCEDURE : Addr) (w_ObjectKind_VIEW : Addr) (w_ObjectKind_CLR_TRIGGER : Addr) (w_ObjectKind_FUNCTION : Addr) (w_ObjectKind_TRIGGER : Addr) (w_ObjectKind_CLR_FUNCTION : Addr) (h0 : Heap) (n0 : Nat) (Z0 : n0 ≤ h0.size) (S_ObjectKind_TABLE : Sta Z h0 "com/example/refbound/refbound/catalog/ObjectKind" "TABLE" "Lcom/example/refbound/refbound/catalog/ObjectKind;" (.ref w_ObjectKind_TABLE)) (E_ObjectKind_TABLE : Exa Z h0 w_ObjectKind_TABLE "com/example/refbound/refbound/catalog/ObjectKind") (S_ObjectKind_TYPE : Sta Z h0 "com/example/refbound/refbound/catalog/ObjectKind" "TYPE" "Lcom/example/refbound/refbound/catalog/ObjectKind;" (.ref w_ObjectKind_TYPE)) (E_ObjectKind_TYPE : Exa Z h0 w_ObjectKind_TYPE "com/example/refbound/refbound/catalog/ObjectKind") (S_ObjectKind_CLR_PROCEDURE : Sta Z h0 "com/example/refbound/refbound/catalog/ObjectKind" "CLR_PROCEDURE" "Lcom/example/refbound/refbound/catalog/ObjectKind;" (.ref w_ObjectKind_CLR_PROCEDURE)) (E_ObjectKind_CLR_PROCEDURE : Exa Z h0 w_ObjectKind_CLR_PROCEDURE "com/example/refbound/refbound/catalog/ObjectKind") (S_ObjectKind_PROCEDURE : Sta Z h0 "com/example/refbound/refbound/catalog/ObjectKind" "PROCEDURE" "Lcom/example/refbound/refbound/catalog/ObjectKind;" (.ref w_ObjectKind_PROCEDURE)) (E_ObjectKind_PROCEDURE : Exa Z h0 w_ObjectKind_PROCEDURE "com/example/refbound/refbound/catalog/ObjectKind") (S_ObjectKind_VIEW : Sta Z h0 "com/example/refbound/refbound/catalog/ObjectKind" "VIEW" "Lcom/example/refbound/refbound/catalog/ObjectKind;" (.ref w_ObjectKind_VIEW)) (E_ObjectKind_VIEW : Exa Z h0 w_ObjectKind_VIEW "com/example/refbound/refbound/catalog/ObjectKind") (S_ObjectKind_CLR_TRIGGER : Sta Z h0 "com/example/refbound/refbound/catalog/ObjectKind" "CLR_TRIGGER" "Lcom/example/refbound/refbound/catalog/ObjectKind;" (.ref w_ObjectKind_CLR_TRIGGER)) (E_ObjectKind_CLR_TRIGGER : Exa Z h0 w_ObjectKind_CLR_TRIGGER "com/example/refbound/refbound/catalog/ObjectKind") (S_ObjectKind_FUNCTION : Sta Z h0 "com/example/refbound/refbound/catalog/ObjectKind" "FUNCTION" "Lcom/example/refbound/refbound/catalog/ObjectKind;" (.ref w_ObjectKind_FUNCTION)) (E_ObjectKind_FUNCTION : Exa Z h0 w_ObjectKind_FUNCTION "com/example/refbound/refbound/catalog/ObjectKind") (S_ObjectKind_TRIGGER : Sta Z h0 "com/example/refbound/refbound/catalog/ObjectKind" "TRIGGER" "Lcom/example/refbound/refbound/catalog/ObjectKind;" (.ref w_ObjectKind_TRIGGER)) (E_ObjectKind_TRIGGER : Exa Z h0 w_ObjectKind_TRIGGER "com/example/refbound/refbound/catalog/ObjectKind") (S_ObjectKind_CLR_FUNCTION : Sta Z h0 "com/example/refbound/refbound/catalog/ObjectKind" "CLR_FUNCTION" "Lcom/example/refbound/refbound/catalog/ObjectKind;" (.ref w_ObjectKind_CLR_FUNCTION)) (E_ObjectKind_CLR_FUNCTION : Exa Z h0 w_ObjectKind_CLR_FUNCTION "com/example/refbound/refbound/catalog/ObjectKind") (F_ObjectKind_TABLE_ordinal : Fld Z h0 w_ObjectKind_TABLE "java/lang/Enum" "ordinal" "I" (.int (0 : Int32))) (F_ObjectKind_TYPE_ordinal : Fld Z h0 w_ObjectKind_TYPE "java/lang/Enum" "ordinal" "I" (.int (8 : Int32))) (F_ObjectKind_CLR_PROCEDURE_ordinal : Fld Z h0 w_ObjectKind_CLR_PROCEDURE "java/lang/Enum" "ordinal" "I" (.int (3 : Int32))) (F_ObjectKind_PROCEDURE_ordinal : Fld Z h0 w_ObjectKind_PROCEDURE "java/lang/Enum" "ordinal" "I" (.int (2 : Int32))) (F_ObjectKind_VIEW_ordinal : Fld Z h0 w_ObjectKind_VIEW "java/lang/Enum" "ordinal" "I" (.int (1 : Int32))) (F_ObjectKind_CLR_TRIGGER_ordinal : Fld Z h0 w_ObjectKind_CLR_TRIGGER "java/lang/Enum" "ordinal" "I" (.int (7 : Int32))) (F_ObjectKind_FUNCTION_ordinal : Fld Z h0 w_ObjectKind_FUNCTION "java/lang/Enum" "ordinal" "I" (.int (4 : Int32))) (F_ObjectKind_TRIGGER_ordinal : Fld Z h0 w_ObjectKind_TRIGGER "java/lang/Enum" "ordinal" "I" (.int (6 : Int32))) (F_ObjectKind_CLR_FUNCTION_ordinal : Fld Z h0 w_ObjectKind_CLR_FUNCTION "java/lang/Enum" "ordinal" "I" (.int (5 : Int32))) :
    MetFree l x (head1 (Jvm.Cond.code x code maxLocals ret :: ws) room_1) (fun a U => a = #[(.int p0)] ∧ Z.Warmed39 U.vm ∧ U.heap = h0) (fun _ _ _ _ _ => True) (fun _ U o U' => ∃ v L, o = .returned v ∧ Q0 Z p0 w_ObjectKind_TABLE w_ObjectKind_TYPE w_ObjectKind_CLR_PROCEDURE w_ObjectKind_PROCEDURE w_ObjectKind_VIEW w_ObjectKind_CLR_TRIGGER w_ObjectKind_FUNCTION w_ObjectKind_TRIGGER w_ObjectKind_CLR_FUNCTION h0 n0 v U'.heap L ∧ FrameEnd U o U' L room_1.cells room_1.slots) := by
  refine MetFree.of_bodySF (plainFor_of_name pn_0) hisR ?_
  intro p e s m args below meth c s₁ Bd hml0 hP hK
  obtain ⟨rfl, hZ, hh⟩ := hP
  have hx := Bd.exec
  have hby := Bd.bytes
  have hml : c.maxLocals = 4 := hml0
  have hown : s.vm.findClass "com/example/refbound/refbound/catalog/ObjectKindIsTypePinLaw" = some m.cls := findClass_of_methodNamed Bd.named
  have hnm := (name_of_methodNamed Bd.named Bd.method).1
  have X0 : Stand p l e room_1 s m #[(.int p0)] below meth c s₁ [] 0 0 := Stand.of_body Bd
  have e0 : s₁.heap = h0 := by rw [← hh, Bd.state]; rfl
  have N0 := Fr.nil n0
  refine own_go (B := s₁.setTop (mkF m 0 (LS_Iuuu p0) [])) (fun t k => castTop (ef_0 m p0) k) ?_
  refine own_go (B := s₁.setTop (mkF m 7 (LS_Iuuu p0) [(.int ((p0 &&& (2147483647 : Int32)) % (9 : Int32)))])) (fun t k => ?_) ?_
  · show Steps p.tables e below (s₁.setTop (mkF m 0 (LS_Iuuu p0) [])) _
    refine XS.iloadN X0.here hx rfl (hb hby at_0) rfl ?_
    show Steps p.tables e below (s₁.setTop (mkF m 1 (LS_Iuuu p0) [(.int p0)])) _
    refine X0.ldcInt hx hown (mvT hZ (hw _ (List.mem_of_getElem? (i := 0) rfl))) (g := (mkF m 1 (LS_Iuuu p0) [(.int p0)])) rfl (hb hby at_1) _ ?_
    show Steps p.tables e below (s₁.setTop (mkF m 3 (LS_Iuuu p0) [(.int (2147483647 : Int32)), (.int p0)])) _
    refine XS.iand X0.here hx rfl (hb hby at_3) rfl ?_
    show Steps p.tables e below (s₁.setTop (mkF m 4 (LS_Iuuu p0) [(.int (p0 &&& (2147483647 : Int32)))])) _
    refine XS.bipush X0.here hx rfl (hb hby at_4) ?_
    show Steps p.tables e below (s₁.setTop (mkF m 6 (LS_Iuuu p0) [(.int (9 : Int32)), (.int (p0 &&& (2147483647 : Int32)))])) _
    refine Jvm.RoadKit.iremM X0 hx rfl (hb hby at_6) rfl (by decide) ?_
    exact k
  rcases own_mod9 p0 with hk1 | hk1 | hk1 | hk1 | hk1 | hk1 | hk1 | hk1 | hk1
  · rw [hk1]
    refine own_go (B := s₁.setTop (mkF m 12 (LS_IIuu p0 (0 : Int32)) [])) (fun t k => ?_) ?_
    · show Steps p.tables e below (s₁.setTop (mkF m 7 (LS_Iuuu p0) [(.int (0 : Int32))])) _
      refine XS.istoreN X0.here hx rfl (hb hby at_7) rfl (l' := (LS_IIuu p0 (0 : Int32))) rfl ?_
      show Steps p.tables e below (s₁.setTop (mkF m 8 (LS_IIuu p0 (0 : Int32)) [])) _
      refine XS.iloadN X0.here hx rfl (hb hby at_8) rfl ?_
      show Steps p.tables e below (s₁.setTop (mkF m 9 (LS_IIuu p0 (0 : Int32)) [(.int (0 : Int32))])) _
      refine XS.ifNo X0.here hx rfl (hb hby at_9) rfl ((if0 _ _).trans (teq (by decide : (0 : Int32) = (0 : Int32))).2) ?_
      exact k
    obtain ⟨T2, X2, e2, st2⟩ := getS2 X0 hx hZ hown (host := "") (Or.inl (hw _ (List.mem_of_getElem? (i := 1) rfl))) Via.refl e0 S_ObjectKind_TABLE (g := (mkF m 12 (LS_IIuu p0 (0 : Int32)) [])) rfl (hb hby at_12)
    refine own_go (B := T2.setTop (mkF m 15 (LS_IIuu p0 (0 : Int32)) [(.ref w_ObjectKind_TABLE)])) (fun t k => st2 _ k) ?_
    refine own_go (B := T2.setTop (mkF m 128 (LS_IIRI p0 (0 : Int32) w_ObjectKind_TABLE (0 : Int32)) [(.ref w_ObjectKind_TABLE)])) (fun t k => ?_) ?_
    · show Steps p.tables e below (T2.setTop (mkF m 15 (LS_IIuu p0 (0 : Int32)) [(.ref w_ObjectKind_TABLE)])) _
      refine XS.astoreN X2.here hx rfl (hb hby at_15) rfl rfl (l' := (LS_IIRu p0 (0 : Int32) w_ObjectKind_TABLE)) rfl ?_
      show Steps p.tables e below (T2.setTop (mkF m 16 (LS_IIRu p0 (0 : Int32) w_ObjectKind_TABLE) [])) _
      refine XS.iconst X2.here hx rfl (hb hby at_16) ?_
      show Steps p.tables e below (T2.setTop (mkF m 17 (LS_IIRu p0 (0 : Int32) w_ObjectKind_TABLE) [(.int (0 : Int32))])) _
      refine XS.istoreN X2.here hx rfl (hb hby at_17) rfl (l' := (LS_IIRI p0 (0 : Int32) w_ObjectKind_TABLE (0 : Int32))) rfl ?_
      show Steps p.tables e below (T2.setTop (mkF m 18 (LS_IIRI p0 (0 : Int32) w_ObjectKind_TABLE (0 : Int32)) [])) _
      refine XS.goto X2.here hx rfl (pc0 := 18) (pc' := 127) rfl (hb hby at_18) (by decide) (by decide) ?_
      show Steps p.tables e below (T2.setTop (mkF m 127 (LS_IIRI p0 (0 : Int32) w_ObjectKind_TABLE (0 : Int32)) [])) _
      refine XS.aloadN X2.here hx rfl (hb hby at_127) rfl rfl ?_
      exact k
    obtain ⟨cq3, kq3, q3a, q3b, q3c⟩ := isOf hZ e2 E_ObjectKind_TABLE
    obtain ⟨_, _, ⟨T3, L3, k3, n3⟩, -, X3, ⟨Lc3, hQ3, l3, y3, z3⟩, st3⟩ := X2.virtualBack hx (y := (⟨"com/example/refbound/refbound/catalog/ObjectKind", "isType", "()Z"⟩ : MethodName)) (z := (⟨"com/example/refbound/refbound/catalog/ObjectKind", "isType", "()Z"⟩ : MethodName)) hown (mvT hZ (hw _ (List.mem_of_getElem? (i := 4) rfl))) (mvT hZ (hw _ (List.mem_of_getElem? (i := 5) rfl))) (notFace_of_selects (args := #[]) (mvT hZ (hw _ (List.mem_of_getElem? (i := 7) rfl)))) (mvT hZ (hw _ (List.mem_of_getElem? (i := 7) rfl))) (mvT hZ (hw _ (List.mem_of_getElem? (i := 6) rfl))) (by decide) (backOf (W := 0) (rm1 l Z a0 hw [] w_ObjectKind_TABLE w_ObjectKind_TYPE h0 n0 Z0 S_ObjectKind_TYPE) hZ (hw _ (List.mem_of_getElem? (i := 8) rfl)) (hw _ (List.mem_of_getElem? (i := 2) rfl)) (by decide) (by decide)) q3a q3c (g := (mkF m 128 (LS_IIRI p0 (0 : Int32) w_ObjectKind_TABLE (0 : Int32)) [(.ref w_ObjectKind_TABLE)])) rfl (by rw [hml]; rfl) (Steps.refl _) (argsL := []) (rest := []) (lenOf pd___Z rfl) rfl (by show 2 * 0 + _ ≤ _; exact Nat.le_of_eq rfl) (hb hby at_128) (fun _ _ => ⟨rfl, e2, (by decide : 0 + 0 ≤ _), (by decide : 0 + 0 ≤ _)⟩)
    dsimp only [Pt.U, Pt.locs, Pt.cells, Pt.slots] at X3 l3 y3 z3 st3 hQ3
    subst l3 y3 z3
    obtain ⟨rfl, N3q, e3⟩ := hQ3
    have N3 := Fr.app N0 N3q
    refine own_go (B := T3.setTop (mkF m 131 (LS_IIRI p0 (0 : Int32) w_ObjectKind_TABLE (0 : Int32)) [(.int (if w_ObjectKind_TABLE = w_ObjectKind_TYPE then (1 : Int32) else (0 : Int32)))])) (fun t k => st3.trans k) ?_
    rw [show (if w_ObjectKind_TABLE = w_ObjectKind_TYPE then (1 : Int32) else (0 : Int32)) = (0 : Int32) from if_neg (Fld.ne F_ObjectKind_TABLE_ordinal F_ObjectKind_TYPE_ordinal (by decide))]
    refine own_go (B := T3.setTop (mkF m 140 (LS_IIRI p0 (0 : Int32) w_ObjectKind_TABLE (0 : Int32)) [(.int (1 : Int32))])) (fun t k => ?_) ?_
    · show Steps p.tables e below (T3.setTop (mkF m 131 (LS_IIRI p0 (0 : Int32) w_ObjectKind_TABLE (0 : Int32)) [(.int (0 : Int32))])) _
      refine XS.iloadN X3.here hx rfl (hb hby at_131) rfl ?_
      show Steps p.tables e below (T3.setTop (mkF m 132 (LS_IIRI p0 (0 : Int32) w_ObjectKind_TABLE (0 : Int32)) [(.int (0 : Int32)), (.int (0 : Int32))])) _
      refine XS.icmpNo X3.here hx rfl (hb hby at_132) rfl (teq (by decide : (0 : Int32) = (0 : Int32))).2 ?_
      show Steps p.tables e below (T3.setTop (mkF m 135 (LS_IIRI p0 (0 : Int32) w_ObjectKind_TABLE (0 : Int32)) [])) _
      refine XS.iconst X3.here hx rfl (hb hby at_135) ?_
      show Steps p.tables e below (T3.setTop (mkF m 136 (LS_IIRI p0 (0 : Int32) w_ObjectKind_TABLE (0 : Int32)) [(.int (1 : Int32))])) _
      refine XS.goto X3.here hx rfl (pc0 := 136) (pc' := 140) rfl (hb hby at_136) (by decide) (by decide) ?_
      exact k
    obtain ⟨fs, hr, hrun, hended, hW, hsame⟩ := X3.leave (v := some (.int (1 : Int32))) (fun h => by rw [Bd.returns] at h; cases h)
    refine ⟨_, _, ?_, hrun, hended, _, _, rfl, ?_, ⟨_, rfl⟩, hW, hsame.mono (by decide) (by decide)⟩
    · show Steps p.tables e below (T3.setTop (mkF m 140 (LS_IIRI p0 (0 : Int32) w_ObjectKind_TABLE (0 : Int32)) [(.int (1 : Int32))])) _
      exact retN X3 hx (t := .boolean) Bd.returns (by simp) (hb hby at_140) hr
    · show Q0 Z p0 w_ObjectKind_TABLE w_ObjectKind_TYPE w_ObjectKind_CLR_PROCEDURE w_ObjectKind_PROCEDURE w_ObjectKind_VIEW w_ObjectKind_CLR_TRIGGER w_ObjectKind_FUNCTION w_ObjectKind_TRIGGER w_ObjectKind_CLR_FUNCTION h0 n0 _ T3.heap _
      rw [e3]
      exact ⟨rfl, N3⟩
  · rw [hk1]
    refine own_go (B := s₁.setTop (mkF m 26 (LS_IIuu p0 (1 : Int32)) [])) (fun t k => ?_) ?_
    · show Steps p.tables e below (s₁.setTop (mkF m 7 (LS_Iuuu p0) [(.int (1 : Int32))])) _
      refine XS.istoreN X0.here hx rfl (hb hby at_7) rfl (l' := (LS_IIuu p0 (1 : Int32))) rfl ?_
      show Steps p.tables e below (s₁.setTop (mkF m 8 (LS_IIuu p0 (1 : Int32)) [])) _
      refine XS.iloadN X0.here hx rfl (hb hby at_8) rfl ?_
      show Steps p.tables e below (s₁.setTop (mkF m 9 (LS_IIuu p0 (1 : Int32)) [(.int (1 : Int32))])) _
      refine XS.ifYes X0.here hx rfl (pc0 := 9) (pc' := 21) rfl (hb hby at_9) rfl ((if0 _ _).trans (feq (by decide : ¬ ((1 : Int32) = (0 : Int32)))).2) (by decide) (by decide) ?_
      show Steps p.tables e below (s₁.setTop (mkF m 21 (LS_IIuu p0 (1 : Int32)) [])) _
      refine XS.iloadN X0.here hx rfl (hb hby at_21) rfl ?_
      show Steps p.tables e below (s₁.setTop (mkF m 22 (LS_IIuu p0 (1 : Int32)) [(.int (1 : Int32))])) _
      refine XS.iconst X0.here hx rfl (hb hby at_22) ?_
      show Steps p.tables e below (s₁.setTop (mkF m 23 (LS_IIuu p0 (1 : Int32)) [(.int (1 : Int32)), (.int (1 : Int32))])) _
      refine XS.icmpNo X0.here hx rfl (hb hby at_23) rfl (teq (by decide : (1 : Int32) = (1 : Int32))).2 ?_
      exact k
    obtain ⟨T4, X4, e4, st4⟩ := getS2 X0 hx hZ hown (host := "") (Or.inl (hw _ (List.mem_of_getElem? (i := 15) rfl))) Via.refl e0 S_ObjectKind_VIEW (g := (mkF m 26 (LS_IIuu p0 (1 : Int32)) [])) rfl (hb hby at_26)
    refine own_go (B := T4.setTop (mkF m 29 (LS_IIuu p0 (1 : Int32)) [(.ref w_ObjectKind_VIEW)])) (fun t k => st4 _ k) ?_
    refine own_go (B := T4.setTop (mkF m 128 (LS_IIRI p0 (1 : Int32) w_ObjectKind_VIEW (0 : Int32)) [(.ref w_ObjectKind_VIEW)])) (fun t k => ?_) ?_
    · show Steps p.tables e below (T4.setTop (mkF m 29 (LS_IIuu p0 (1 : Int32)) [(.ref w_ObjectKind_VIEW)])) _
      refine XS.astoreN X4.here hx rfl (hb hby at_29) rfl rfl (l' := (LS_IIRu p0 (1 : Int32) w_ObjectKind_VIEW)) rfl ?_
      show Steps p.tables e below (T4.setTop (mkF m 30 (LS_IIRu p0 (1 : Int32) w_ObjectKind_VIEW) [])) _
      refine XS.iconst X4.here hx rfl (hb hby at_30) ?_
      show Steps p.tables e below (T4.setTop (mkF m 31 (LS_IIRu p0 (1 : Int32) w_ObjectKind_VIEW) [(.int (0 : Int32))])) _
      refine XS.istoreN X4.here hx rfl (hb hby at_31) rfl (l' := (LS_IIRI p0 (1 : Int32) w_ObjectKind_VIEW (0 : Int32))) rfl ?_
      show Steps p.tables e below (T4.setTop (mkF m 32 (LS_IIRI p0 (1 : Int32) w_ObjectKind_VIEW (0 : Int32)) [])) _
      refine XS.goto X4.here hx rfl (pc0 := 32) (pc' := 127) rfl (hb hby at_32) (by decide) (by decide) ?_
      show Steps p.tables e below (T4.setTop (mkF m 127 (LS_IIRI p0 (1 : Int32) w_ObjectKind_VIEW (0 : Int32)) [])) _
      refine XS.aloadN X4.here hx rfl (hb hby at_127) rfl rfl ?_
      exact k
    obtain ⟨cq5, kq5, q5a, q5b, q5c⟩ := isOf hZ e4 E_ObjectKind_VIEW
    obtain ⟨_, _, ⟨T5, L5, k5, n5⟩, -, X5, ⟨Lc5, hQ5, l5, y5, z5⟩, st5⟩ := X4.virtualBack hx (y := (⟨"com/example/refbound/refbound/catalog/ObjectKind", "isType", "()Z"⟩ : MethodName)) (z := (⟨"com/example/refbound/refbound/catalog/ObjectKind", "isType", "()Z"⟩ : MethodName)) hown (mvT hZ (hw _ (List.mem_of_getElem? (i := 4) rfl))) (mvT hZ (hw _ (List.mem_of_getElem? (i := 5) rfl))) (notFace_of_selects (args := #[]) (mvT hZ (hw _ (List.mem_of_getElem? (i := 7) rfl)))) (mvT hZ (hw _ (List.mem_of_getElem? (i := 7) rfl))) (mvT hZ (hw _ (List.mem_of_getElem? (i := 6) rfl))) (by decide) (backOf (W := 0) (rm1 l Z a0 hw [] w_ObjectKind_VIEW w_ObjectKind_TYPE h0 n0 Z0 S_ObjectKind_TYPE) hZ (hw _ (List.mem_of_getElem? (i := 8) rfl)) (hw _ (List.mem_of_getElem? (i := 2) rfl)) (by decide) (by decide)) q5a q5c (g := (mkF m 128 (LS_IIRI p0 (1 : Int32) w_ObjectKind_VIEW (0 : Int32)) [(.ref w_ObjectKind_VIEW)])) rfl (by rw [hml]; rfl) (Steps.refl _) (argsL := []) (rest := []) (lenOf pd___Z rfl) rfl (by show 2 * 0 + _ ≤ _; exact Nat.le_of_eq rfl) (hb hby at_128) (fun _ _ => ⟨rfl, e4, (by decide : 0 + 0 ≤ _), (by decide : 0 + 0 ≤ _)⟩)
    dsimp only [Pt.U, Pt.locs, Pt.cells, Pt.slots] at X5 l5 y5 z5 st5 hQ5
    subst l5 y5 z5
    obtain ⟨rfl, N5q, e5⟩ := hQ5
    have N5 := Fr.app N0 N5q
    refine own_go (B := T5.setTop (mkF m 131 (LS_IIRI p0 (1 : Int32) w_ObjectKind_VIEW (0 : Int32)) [(.int (if w_ObjectKind_VIEW = w_ObjectKind_TYPE then (1 : Int32) else (0 : Int32)))])) (fun t k => st5.trans k) ?_
    rw [show (if w_ObjectKind_VIEW = w_ObjectKind_TYPE then (1 : Int32) else (0 : Int32)) = (0 : Int32) from if_neg (Fld.ne F_ObjectKind_VIEW_ordinal F_ObjectKind_TYPE_ordinal (by decide))]
    refine own_go (B := T5.setTop (mkF m 140 (LS_IIRI p0 (1 : Int32) w_ObjectKind_VIEW (0 : Int32)) [(.int (1 : Int32))])) (fun t k => ?_) ?_
    · show Steps p.tables e below (T5.setTop (mkF m 131 (LS_IIRI p0 (1 : Int32) w_ObjectKind_VIEW (0 : Int32)) [(.int (0 : Int32))])) _
      refine XS.iloadN X5.here hx rfl (hb hby at_131) rfl ?_
      show Steps p.tables e below (T5.setTop (mkF m 132 (LS_IIRI p0 (1 : Int32) w_ObjectKind_VIEW (0 : Int32)) [(.int (0 : Int32)), (.int (0 : Int32))])) _
      refine XS.icmpNo X5.here hx rfl (hb hby at_132) rfl (teq (by decide : (0 : Int32) = (0 : Int32))).2 ?_
      show Steps p.tables e below (T5.setTop (mkF m 135 (LS_IIRI p0 (1 : Int32) w_ObjectKind_VIEW (0 : Int32)) [])) _
      refine XS.iconst X5.here hx rfl (hb hby at_135) ?_
      show Steps p.tables e below (T5.setTop (mkF m 136 (LS_IIRI p0 (1 : Int32) w_ObjectKind_VIEW (0 : Int32)) [(.int (1 : Int32))])) _
      refine XS.goto X5.here hx rfl (pc0 := 136) (pc' := 140) rfl (hb hby at_136) (by decide) (by decide) ?_
      exact k
    obtain ⟨fs, hr, hrun, hended, hW, hsame⟩ := X5.leave (v := some (.int (1 : Int32))) (fun h => by rw [Bd.returns] at h; cases h)
    refine ⟨_, _, ?_, hrun, hended, _, _, rfl, ?_, ⟨_, rfl⟩, hW, hsame.mono (by decide) (by decide)⟩
    · show Steps p.tables e below (T5.setTop (mkF m 140 (LS_IIRI p0 (1 : Int32) w_ObjectKind_VIEW (0 : Int32)) [(.int (1 : Int32))])) _
      exact retN X5 hx (t := .boolean) Bd.returns (by simp) (hb hby at_140) hr
    · show Q0 Z p0 w_ObjectKind_TABLE w_ObjectKind_TYPE w_ObjectKind_CLR_PROCEDURE w_ObjectKind_PROCEDURE w_ObjectKind_VIEW w_ObjectKind_CLR_TRIGGER w_ObjectKind_FUNCTION w_ObjectKind_TRIGGER w_ObjectKind_CLR_FUNCTION h0 n0 _ T5.heap _
      rw [e5]
      exact ⟨rfl, N5⟩
  · rw [hk1]
    refine own_go (B := s₁.setTop (mkF m 40 (LS_IIuu p0 (2 : Int32)) [])) (fun t k => ?_) ?_
    · show Steps p.tables e below (s₁.setTop (mkF m 7 (LS_Iuuu p0) [(.int (2 : Int32))])) _
      refine XS.istoreN X0.here hx rfl (hb hby at_7) rfl (l' := (LS_IIuu p0 (2 : Int32))) rfl ?_
      show Steps p.tables e below (s₁.setTop (mkF m 8 (LS_IIuu p0 (2 : Int32)) [])) _
      refine XS.iloadN X0.here hx rfl (hb hby at_8) rfl ?_
      show Steps p.tables e below (s₁.setTop (mkF m 9 (LS_IIuu p0 (2 : Int32)) [(.int (2 : Int32))])) _
      refine XS.ifYes X0.here hx rfl (pc0 := 9) (pc' := 21) rfl (hb hby at_9) rfl ((if0 _ _).trans (feq (by decide : ¬ ((2 : Int32) = (0 : Int32)))).2) (by decide) (by decide) ?_
      show Steps p.tables e below (s₁.setTop (mkF m 21 (LS_IIuu p0 (2 : Int32)) [])) _
      refine XS.iloadN X0.here hx rfl (hb hby at_21) rfl ?_
      show Steps p.tables e below (s₁.setTop (mkF m 22 (LS_IIuu p0 (2 : Int32)) [(.int (2 : Int32))])) _
      refine XS.iconst X0.here hx rfl (hb hby at_22) ?_
      show Steps p.tables e below (s₁.setTop (mkF m 23 (LS_IIuu p0 (2 : Int32)) [(.int (1 : Int32)), (.int (2 : Int32))])) _
      refine XS.icmpYes X0.here hx rfl (pc0 := 23) (pc' := 35) rfl (hb hby at_23) rfl (feq (by decide : ¬ ((2 : Int32) = (1 : Int32)))).2 (by decide) (by decide) ?_
      show Steps p.tables e below (s₁.setTop (mkF m 35 (LS_IIuu p0 (2 : Int32)) [])) _
      refine XS.iloadN X0.here hx rfl (hb hby at_35) rfl ?_
      show Steps p.tables e below (s₁.setTop (mkF m 36 (LS_IIuu p0 (2 : Int32)) [(.int (2 : Int32))])) _
      refine XS.iconst X0.here hx rfl (hb hby at_36) ?_
      show Steps p.tables e below (s₁.setTop (mkF m 37 (LS_IIuu p0 (2 : Int32)) [(.int (2 : Int32)), (.int (2 : Int32))])) _
      refine XS.icmpNo X0.here hx rfl (hb hby at_37) rfl (teq (by decide : (2 : Int32) = (2 : Int32))).2 ?_
      exact k
    obtain ⟨T6, X6, e6, st6⟩ := getS2 X0 hx hZ hown (host := "") (Or.inl (hw _ (List.mem_of_getElem? (i := 13) rfl))) Via.refl e0 S_ObjectKind_PROCEDURE (g := (mkF m 40 (LS_IIuu p0 (2 : Int32)) [])) rfl (hb hby at_40)
    refine own_go (B := T6.setTop (mkF m 43 (LS_IIuu p0 (2 : Int32)) [(.ref w_ObjectKind_PROCEDURE)])) (fun t k => st6 _ k) ?_
    refine own_go (B := T6.setTop (mkF m 128 (LS_IIRI p0 (2 : Int32) w_ObjectKind_PROCEDURE (0 : Int32)) [(.ref w_ObjectKind_PROCEDURE)])) (fun t k => ?_) ?_
    · show Steps p.tables e below (T6.setTop (mkF m 43 (LS_IIuu p0 (2 : Int32)) [(.ref w_ObjectKind_PROCEDURE)])) _
      refine XS.astoreN X6.here hx rfl (hb hby at_43) rfl rfl (l' := (LS_IIRu p0 (2 : Int32) w_ObjectKind_PROCEDURE)) rfl ?_
      show Steps p.tables e below (T6.setTop (mkF m 44 (LS_IIRu p0 (2 : Int32) w_ObjectKind_PROCEDURE) [])) _
      refine XS.iconst X6.here hx rfl (hb hby at_44) ?_
      show Steps p.tables e below (T6.setTop (mkF m 45 (LS_IIRu p0 (2 : Int32) w_ObjectKind_PROCEDURE) [(.int (0 : Int32))])) _
      refine XS.istoreN X6.here hx rfl (hb hby at_45) rfl (l' := (LS_IIRI p0 (2 : Int32) w_ObjectKind_PROCEDURE (0 : Int32))) rfl ?_
      show Steps p.tables e below (T6.setTop (mkF m 46 (LS_IIRI p0 (2 : Int32) w_ObjectKind_PROCEDURE (0 : Int32)) [])) _
      refine XS.goto X6.here hx rfl (pc0 := 46) (pc' := 127) rfl (hb hby at_46) (by decide) (by decide) ?_
      show Steps p.tables e below (T6.setTop (mkF m 127 (LS_IIRI p0 (2 : Int32) w_ObjectKind_PROCEDURE (0 : Int32)) [])) _
      refine XS.aloadN X6.here hx rfl (hb hby at_127) rfl rfl ?_
      exact k
    obtain ⟨cq7, kq7, q7a, q7b, q7c⟩ := isOf hZ e6 E_ObjectKind_PROCEDURE
    obtain ⟨_, _, ⟨T7, L7, k7, n7⟩, -, X7, ⟨Lc7, hQ7, l7, y7, z7⟩, st7⟩ := X6.virtualBack hx (y := (⟨"com/example/refbound/refbound/catalog/ObjectKind", "isType", "()Z"⟩ : MethodName)) (z := (⟨"com/example/refbound/refbound/catalog/ObjectKind", "isType", "()Z"⟩ : MethodName)) hown (mvT hZ (hw _ (List.mem_of_getElem? (i := 4) rfl))) (mvT hZ (hw _ (List.mem_of_getElem? (i := 5) rfl))) (notFace_of_selects (args := #[]) (mvT hZ (hw _ (List.mem_of_getElem? (i := 7) rfl)))) (mvT hZ (hw _ (List.mem_of_getElem? (i := 7) rfl))) (mvT hZ (hw _ (List.mem_of_getElem? (i := 6) rfl))) (by decide) (backOf (W := 0) (rm1 l Z a0 hw [] w_ObjectKind_PROCEDURE w_ObjectKind_TYPE h0 n0 Z0 S_ObjectKind_TYPE) hZ (hw _ (List.mem_of_getElem? (i := 8) rfl)) (hw _ (List.mem_of_getElem? (i := 2) rfl)) (by decide) (by decide)) q7a q7c (g := (mkF m 128 (LS_IIRI p0 (2 : Int32) w_ObjectKind_PROCEDURE (0 : Int32)) [(.ref w_ObjectKind_PROCEDURE)])) rfl (by rw [hml]; rfl) (Steps.refl _) (argsL := []) (rest := []) (lenOf pd___Z rfl) rfl (by show 2 * 0 + _ ≤ _; exact Nat.le_of_eq rfl) (hb hby at_128) (fun _ _ => ⟨rfl, e6, (by decide : 0 + 0 ≤ _), (by decide : 0 + 0 ≤ _)⟩)
    dsimp only [Pt.U, Pt.locs, Pt.cells, Pt.slots] at X7 l7 y7 z7 st7 hQ7
    subst l7 y7 z7
    obtain ⟨rfl, N7q, e7⟩ := hQ7
    have N7 := Fr.app N0 N7q
    refine own_go (B := T7.setTop (mkF m 131 (LS_IIRI p0 (2 : Int32) w_ObjectKind_PROCEDURE (0 : Int32)) [(.int (if w_ObjectKind_PROCEDURE = w_ObjectKind_TYPE then (1 : Int32) else (0 : Int32)))])) (fun t k => st7.trans k) ?_
    rw [show (if w_ObjectKind_PROCEDURE = w_ObjectKind_TYPE then (1 : Int32) else (0 : Int32)) = (0 : Int32) from if_neg (Fld.ne F_ObjectKind_PROCEDURE_ordinal F_ObjectKind_TYPE_ordinal (by decide))]
    refine own_go (B := T7.setTop (mkF m 140 (LS_IIRI p0 (2 : Int32) w_ObjectKind_PROCEDURE (0 : Int32)) [(.int (1 : Int32))])) (fun t k => ?_) ?_
    · show Steps p.tables e below (T7.setTop (mkF m 131 (LS_IIRI p0 (2 : Int32) w_ObjectKind_PROCEDURE (0 : Int32)) [(.int (0 : Int32))])) _
      refine XS.iloadN X7.here hx rfl (hb hby at_131) rfl ?_
      show Steps p.tables e below (T7.setTop (mkF m 132 (LS_IIRI p0 (2 : Int32) w_ObjectKind_PROCEDURE (0 : Int32)) [(.int (0 : Int32)), (.int (0 : Int32))])) _
      refine XS.icmpNo X7.here hx rfl (hb hby at_132) rfl (teq (by decide : (0 : Int32) = (0 : Int32))).2 ?_
      show Steps p.tables e below (T7.setTop (mkF m 135 (LS_IIRI p0 (2 : Int32) w_ObjectKind_PROCEDURE (0 : Int32)) [])) _
      refine XS.iconst X7.here hx rfl (hb hby at_135) ?_
      show Steps p.tables e below (T7.setTop (mkF m 136 (LS_IIRI p0 (2 : Int32) w_ObjectKind_PROCEDURE (0 : Int32)) [(.int (1 : Int32))])) _
      refine XS.goto X7.here hx rfl (pc0 := 136) (pc' := 140) rfl (hb hby at_136) (by decide) (by decide) ?_
      exact k
    obtain ⟨fs, hr, hrun, hended, hW, hsame⟩ := X7.leave (v := some (.int (1 : Int32))) (fun h => by rw [Bd.returns] at h; cases h)
    refine ⟨_, _, ?_, hrun, hended, _, _, rfl, ?_, ⟨_, rfl⟩, hW, hsame.mono (by decide) (by decide)⟩
    · show Steps p.tables e below (T7.setTop (mkF m 140 (LS_IIRI p0 (2 : Int32) w_ObjectKind_PROCEDURE (0 : Int32)) [(.int (1 : Int32))])) _
      exact retN X7 hx (t := .boolean) Bd.returns (by simp) (hb hby at_140) hr
    · show Q0 Z p0 w_ObjectKind_TABLE w_ObjectKind_TYPE w_ObjectKind_CLR_PROCEDURE w_ObjectKind_PROCEDURE w_ObjectKind_VIEW w_ObjectKind_CLR_TRIGGER w_ObjectKind_FUNCTION w_ObjectKind_TRIGGER w_ObjectKind_CLR_FUNCTION h0 n0 _ T7.heap _
      rw [e7]
      exact ⟨rfl, N7⟩
  · rw [hk1]
    refine own_go (B := s₁.setTop (mkF m 54 (LS_IIuu p0 (3 : Int32)) [])) (fun t k => ?_) ?_
    · show Steps p.tables e below (s₁.setTop (mkF m 7 (LS_Iuuu p0) [(.int (3 : Int32))])) _
      refine XS.istoreN X0.here hx rfl (hb hby at_7) rfl (l' := (LS_IIuu p0 (3 : Int32))) rfl ?_
      show Steps p.tables e below (s₁.setTop (mkF m 8 (LS_IIuu p0 (3 : Int32)) [])) _
      refine XS.iloadN X0.here hx rfl (hb hby at_8) rfl ?_
      show Steps p.tables e below (s₁.setTop (mkF m 9 (LS_IIuu p0 (3 : Int32)) [(.int (3 : Int32))])) _
      refine XS.ifYes X0.here hx rfl (pc0 := 9) (pc' := 21) rfl (hb hby at_9) rfl ((if0 _ _).trans (feq (by decide : ¬ ((3 : Int32) = (0 : Int32)))).2) (by decide) (by decide) ?_
      show Steps p.tables e below (s₁.setTop (mkF m 21 (LS_IIuu p0 (3 : Int32)) [])) _
      refine XS.iloadN X0.here hx rfl (hb hby at_21) rfl ?_
      show Steps p.tables e below (s₁.setTop (mkF m 22 (LS_IIuu p0 (3 : Int32)) [(.int (3 : Int32))])) _
      refine XS.iconst X0.here hx rfl (hb hby at_22) ?_
      show Steps p.tables e below (s₁.setTop (mkF m 23 (LS_IIuu p0 (3 : Int32)) [(.int (1 : Int32)), (.int (3 : Int32))])) _
      refine XS.icmpYes X0.here hx rfl (pc0 := 23) (pc' := 35) rfl (hb hby at_23) rfl (feq (by decide : ¬ ((3 : Int32) = (1 : Int32)))).2 (by decide) (by decide) ?_
      show Steps p.tables e below (s₁.setTop (mkF m 35 (LS_IIuu p0 (3 : Int32)) [])) _
      refine XS.iloadN X0.here hx rfl (hb hby at_35) rfl ?_
      show Steps p.tables e below (s₁.setTop (mkF m 36 (LS_IIuu p0 (3 : Int32)) [(.int (3 : Int32))])) _
      refine XS.iconst X0.here hx rfl (hb hby at_36) ?_
      show Steps p.tables e below (s₁.setTop (mkF m 37 (LS_IIuu p0 (3 : Int32)) [(.int (2 : Int32)), (.int (3 : Int32))])) _
      refine XS.icmpYes X0.here hx rfl (pc0 := 37) (pc' := 49) rfl (hb hby at_37) rfl (feq (by decide : ¬ ((3 : Int32) = (2 : Int32)))).2 (by decide) (by decide) ?_
      show Steps p.tables e below (s₁.setTop (mkF m 49 (LS_IIuu p0 (3 : Int32)) [])) _
      refine XS.iloadN X0.here hx rfl (hb hby at_49) rfl ?_
      show Steps p.tables e below (s₁.setTop (mkF m 50 (LS_IIuu p0 (3 : Int32)) [(.int (3 : Int32))])) _
      refine XS.iconst X0.here hx rfl (hb hby at_50) ?_
      show Steps p.tables e below (s₁.setTop (mkF m 51 (LS_IIuu p0 (3 : Int32)) [(.int (3 : Int32)), (.int (3 : Int32))])) _
      refine XS.icmpNo X0.here hx rfl (hb hby at_51) rfl (teq (by decide : (3 : Int32) = (3 : Int32))).2 ?_
      exact k
    obtain ⟨T8, X8, e8, st8⟩ := getS2 X0 hx hZ hown (host := "") (Or.inl (hw _ (List.mem_of_getElem? (i := 11) rfl))) Via.refl e0 S_ObjectKind_CLR_PROCEDURE (g := (mkF m 54 (LS_IIuu p0 (3 : Int32)) [])) rfl (hb hby at_54)
    refine own_go (B := T8.setTop (mkF m 57 (LS_IIuu p0 (3 : Int32)) [(.ref w_ObjectKind_CLR_PROCEDURE)])) (fun t k => st8 _ k) ?_
    refine own_go (B := T8.setTop (mkF m 128 (LS_IIRI p0 (3 : Int32) w_ObjectKind_CLR_PROCEDURE (0 : Int32)) [(.ref w_ObjectKind_CLR_PROCEDURE)])) (fun t k => ?_) ?_
    · show Steps p.tables e below (T8.setTop (mkF m 57 (LS_IIuu p0 (3 : Int32)) [(.ref w_ObjectKind_CLR_PROCEDURE)])) _
      refine XS.astoreN X8.here hx rfl (hb hby at_57) rfl rfl (l' := (LS_IIRu p0 (3 : Int32) w_ObjectKind_CLR_PROCEDURE)) rfl ?_
      show Steps p.tables e below (T8.setTop (mkF m 58 (LS_IIRu p0 (3 : Int32) w_ObjectKind_CLR_PROCEDURE) [])) _
      refine XS.iconst X8.here hx rfl (hb hby at_58) ?_
      show Steps p.tables e below (T8.setTop (mkF m 59 (LS_IIRu p0 (3 : Int32) w_ObjectKind_CLR_PROCEDURE) [(.int (0 : Int32))])) _
      refine XS.istoreN X8.here hx rfl (hb hby at_59) rfl (l' := (LS_IIRI p0 (3 : Int32) w_ObjectKind_CLR_PROCEDURE (0 : Int32))) rfl ?_
      show Steps p.tables e below (T8.setTop (mkF m 60 (LS_IIRI p0 (3 : Int32) w_ObjectKind_CLR_PROCEDURE (0 : Int32)) [])) _
      refine XS.goto X8.here hx rfl (pc0 := 60) (pc' := 127) rfl (hb hby at_60) (by decide) (by decide) ?_
      show Steps p.tables e below (T8.setTop (mkF m 127 (LS_IIRI p0 (3 : Int32) w_ObjectKind_CLR_PROCEDURE (0 : Int32)) [])) _
      refine XS.aloadN X8.here hx rfl (hb hby at_127) rfl rfl ?_
      exact k
    obtain ⟨cq9, kq9, q9a, q9b, q9c⟩ := isOf hZ e8 E_ObjectKind_CLR_PROCEDURE
    obtain ⟨_, _, ⟨T9, L9, k9, n9⟩, -, X9, ⟨Lc9, hQ9, l9, y9, z9⟩, st9⟩ := X8.virtualBack hx (y := (⟨"com/example/refbound/refbound/catalog/ObjectKind", "isType", "()Z"⟩ : MethodName)) (z := (⟨"com/example/refbound/refbound/catalog/ObjectKind", "isType", "()Z"⟩ : MethodName)) hown (mvT hZ (hw _ (List.mem_of_getElem? (i := 4) rfl))) (mvT hZ (hw _ (List.mem_of_getElem? (i := 5) rfl))) (notFace_of_selects (args := #[]) (mvT hZ (hw _ (List.mem_of_getElem? (i := 7) rfl)))) (mvT hZ (hw _ (List.mem_of_getElem? (i := 7) rfl))) (mvT hZ (hw _ (List.mem_of_getElem? (i := 6) rfl))) (by decide) (backOf (W := 0) (rm1 l Z a0 hw [] w_ObjectKind_CLR_PROCEDURE w_ObjectKind_TYPE h0 n0 Z0 S_ObjectKind_TYPE) hZ (hw _ (List.mem_of_getElem? (i := 8) rfl)) (hw _ (List.mem_of_getElem? (i := 2) rfl)) (by decide) (by decide)) q9a q9c (g := (mkF m 128 (LS_IIRI p0 (3 : Int32) w_ObjectKind_CLR_PROCEDURE (0 : Int32)) [(.ref w_ObjectKind_CLR_PROCEDURE)])) rfl (by rw [hml]; rfl) (Steps.refl _) (argsL := []) (rest := []) (lenOf pd___Z rfl) rfl (by show 2 * 0 + _ ≤ _; exact Nat.le_of_eq rfl) (hb hby at_128) (fun _ _ => ⟨rfl, e8, (by decide : 0 + 0 ≤ _), (by decide : 0 + 0 ≤ _)⟩)
    dsimp only [Pt.U, Pt.locs, Pt.cells, Pt.slots] at X9 l9 y9 z9 st9 hQ9
    subst l9 y9 z9
    obtain ⟨rfl, N9q, e9⟩ := hQ9
    have N9 := Fr.app N0 N9q
    refine own_go (B := T9.setTop (mkF m 131 (LS_IIRI p0 (3 : Int32) w_ObjectKind_CLR_PROCEDURE (0 : Int32)) [(.int (if w_ObjectKind_CLR_PROCEDURE = w_ObjectKind_TYPE then (1 : Int32) else (0 : Int32)))])) (fun t k => st9.trans k) ?_
    rw [show (if w_ObjectKind_CLR_PROCEDURE = w_ObjectKind_TYPE then (1 : Int32) else (0 : Int32)) = (0 : Int32) from if_neg (Fld.ne F_ObjectKind_CLR_PROCEDURE_ordinal F_ObjectKind_TYPE_ordinal (by decide))]
    refine own_go (B := T9.setTop (mkF m 140 (LS_IIRI p0 (3 : Int32) w_ObjectKind_CLR_PROCEDURE (0 : Int32)) [(.int (1 : Int32))])) (fun t k => ?_) ?_
    · show Steps p.tables e below (T9.setTop (mkF m 131 (LS_IIRI p0 (3 : Int32) w_ObjectKind_CLR_PROCEDURE (0 : Int32)) [(.int (0 : Int32))])) _
      refine XS.iloadN X9.here hx rfl (hb hby at_131) rfl ?_
      show Steps p.tables e below (T9.setTop (mkF m 132 (LS_IIRI p0 (3 : Int32) w_ObjectKind_CLR_PROCEDURE (0 : Int32)) [(.int (0 : Int32)), (.int (0 : Int32))])) _
      refine XS.icmpNo X9.here hx rfl (hb hby at_132) rfl (teq (by decide : (0 : Int32) = (0 : Int32))).2 ?_
      show Steps p.tables e below (T9.setTop (mkF m 135 (LS_IIRI p0 (3 : Int32) w_ObjectKind_CLR_PROCEDURE (0 : Int32)) [])) _
      refine XS.iconst X9.here hx rfl (hb hby at_135) ?_
      show Steps p.tables e below (T9.setTop (mkF m 136 (LS_IIRI p0 (3 : Int32) w_ObjectKind_CLR_PROCEDURE (0 : Int32)) [(.int (1 : Int32))])) _
      refine XS.goto X9.here hx rfl (pc0 := 136) (pc' := 140) rfl (hb hby at_136) (by decide) (by decide) ?_
      exact k
    obtain ⟨fs, hr, hrun, hended, hW, hsame⟩ := X9.leave (v := some (.int (1 : Int32))) (fun h => by rw [Bd.returns] at h; cases h)
    refine ⟨_, _, ?_, hrun, hended, _, _, rfl, ?_, ⟨_, rfl⟩, hW, hsame.mono (by decide) (by decide)⟩
    · show Steps p.tables e below (T9.setTop (mkF m 140 (LS_IIRI p0 (3 : Int32) w_ObjectKind_CLR_PROCEDURE (0 : Int32)) [(.int (1 : Int32))])) _
      exact retN X9 hx (t := .boolean) Bd.returns (by simp) (hb hby at_140) hr
    · show Q0 Z p0 w_ObjectKind_TABLE w_ObjectKind_TYPE w_ObjectKind_CLR_PROCEDURE w_ObjectKind_PROCEDURE w_ObjectKind_VIEW w_ObjectKind_CLR_TRIGGER w_ObjectKind_FUNCTION w_ObjectKind_TRIGGER w_ObjectKind_CLR_FUNCTION h0 n0 _ T9.heap _
      rw [e9]
      exact ⟨rfl, N9⟩
  · rw [hk1]
    refine own_go (B := s₁.setTop (mkF m 68 (LS_IIuu p0 (4 : Int32)) [])) (fun t k => ?_) ?_
    · show Steps p.tables e below (s₁.setTop (mkF m 7 (LS_Iuuu p0) [(.int (4 : Int32))])) _
      refine XS.istoreN X0.here hx rfl (hb hby at_7) rfl (l' := (LS_IIuu p0 (4 : Int32))) rfl ?_
      show Steps p.tables e below (s₁.setTop (mkF m 8 (LS_IIuu p0 (4 : Int32)) [])) _
      refine XS.iloadN X0.here hx rfl (hb hby at_8) rfl ?_
      show Steps p.tables e below (s₁.setTop (mkF m 9 (LS_IIuu p0 (4 : Int32)) [(.int (4 : Int32))])) _
      refine XS.ifYes X0.here hx rfl (pc0 := 9) (pc' := 21) rfl (hb hby at_9) rfl ((if0 _ _).trans (feq (by decide : ¬ ((4 : Int32) = (0 : Int32)))).2) (by decide) (by decide) ?_
      show Steps p.tables e below (s₁.setTop (mkF m 21 (LS_IIuu p0 (4 : Int32)) [])) _
      refine XS.iloadN X0.here hx rfl (hb hby at_21) rfl ?_
      show Steps p.tables e below (s₁.setTop (mkF m 22 (LS_IIuu p0 (4 : Int32)) [(.int (4 : Int32))])) _
      refine XS.iconst X0.here hx rfl (hb hby at_22) ?_
      show Steps p.tables e below (s₁.setTop (mkF m 23 (LS_IIuu p0 (4 : Int32)) [(.int (1 : Int32)), (.int (4 : Int32))])) _
      refine XS.icmpYes X0.here hx rfl (pc0 := 23) (pc' := 35) rfl (hb hby at_23) rfl (feq (by decide : ¬ ((4 : Int32) = (1 : Int32)))).2 (by decide) (by decide) ?_
      show Steps p.tables e below (s₁.setTop (mkF m 35 (LS_IIuu p0 (4 : Int32)) [])) _
      refine XS.iloadN X0.here hx rfl (hb hby at_35) rfl ?_
      show Steps p.tables e below (s₁.setTop (mkF m 36 (LS_IIuu p0 (4 : Int32)) [(.int (4 : Int32))])) _
      refine XS.iconst X0.here hx rfl (hb hby at_36) ?_
      show Steps p.tables e below (s₁.setTop (mkF m 37 (LS_IIuu p0 (4 : Int32)) [(.int (2 : Int32)), (.int (4 : Int32))])) _
      refine XS.icmpYes X0.here hx rfl (pc0 := 37) (pc' := 49) rfl (hb hby at_37) rfl (feq (by decide : ¬ ((4 : Int32) = (2 : Int32)))).2 (by decide) (by decide) ?_
      show Steps p.tables e below (s₁.setTop (mkF m 49 (LS_IIuu p0 (4 : Int32)) [])) _
      refine XS.iloadN X0.here hx rfl (hb hby at_49) rfl ?_
      show Steps p.tables e below (s₁.setTop (mkF m 50 (LS_IIuu p0 (4 : Int32)) [(.int (4 : Int32))])) _
      refine XS.iconst X0.here hx rfl (hb hby at_50) ?_
      show Steps p.tables e below (s₁.setTop (mkF m 51 (LS_IIuu p0 (4 : Int32)) [(.int (3 : Int32)), (.int (4 : Int32))])) _
      refine XS.icmpYes X0.here hx rfl (pc0 := 51) (pc' := 63) rfl (hb hby at_51) rfl (feq (by decide : ¬ ((4 : Int32) = (3 : Int32)))).2 (by decide) (by decide) ?_
      show Steps p.tables e below (s₁.setTop (mkF m 63 (LS_IIuu p0 (4 : Int32)) [])) _
      refine XS.iloadN X0.here hx rfl (hb hby at_63) rfl ?_
      show Steps p.tables e below (s₁.setTop (mkF m 64 (LS_IIuu p0 (4 : Int32)) [(.int (4 : Int32))])) _
      refine XS.iconst X0.here hx rfl (hb hby at_64) ?_
      show Steps p.tables e below (s₁.setTop (mkF m 65 (LS_IIuu p0 (4 : Int32)) [(.int (4 : Int32)), (.int (4 : Int32))])) _
      refine XS.icmpNo X0.here hx rfl (hb hby at_65) rfl (teq (by decide : (4 : Int32) = (4 : Int32))).2 ?_
      exact k
    obtain ⟨T10, X10, e10, st10⟩ := getS2 X0 hx hZ hown (host := "") (Or.inl (hw _ (List.mem_of_getElem? (i := 19) rfl))) Via.refl e0 S_ObjectKind_FUNCTION (g := (mkF m 68 (LS_IIuu p0 (4 : Int32)) [])) rfl (hb hby at_68)
    refine own_go (B := T10.setTop (mkF m 71 (LS_IIuu p0 (4 : Int32)) [(.ref w_ObjectKind_FUNCTION)])) (fun t k => st10 _ k) ?_
    refine own_go (B := T10.setTop (mkF m 128 (LS_IIRI p0 (4 : Int32) w_ObjectKind_FUNCTION (0 : Int32)) [(.ref w_ObjectKind_FUNCTION)])) (fun t k => ?_) ?_
    · show Steps p.tables e below (T10.setTop (mkF m 71 (LS_IIuu p0 (4 : Int32)) [(.ref w_ObjectKind_FUNCTION)])) _
      refine XS.astoreN X10.here hx rfl (hb hby at_71) rfl rfl (l' := (LS_IIRu p0 (4 : Int32) w_ObjectKind_FUNCTION)) rfl ?_
      show Steps p.tables e below (T10.setTop (mkF m 72 (LS_IIRu p0 (4 : Int32) w_ObjectKind_FUNCTION) [])) _
      refine XS.iconst X10.here hx rfl (hb hby at_72) ?_
      show Steps p.tables e below (T10.setTop (mkF m 73 (LS_IIRu p0 (4 : Int32) w_ObjectKind_FUNCTION) [(.int (0 : Int32))])) _
      refine XS.istoreN X10.here hx rfl (hb hby at_73) rfl (l' := (LS_IIRI p0 (4 : Int32) w_ObjectKind_FUNCTION (0 : Int32))) rfl ?_
      show Steps p.tables e below (T10.setTop (mkF m 74 (LS_IIRI p0 (4 : Int32) w_ObjectKind_FUNCTION (0 : Int32)) [])) _
      refine XS.goto X10.here hx rfl (pc0 := 74) (pc' := 127) rfl (hb hby at_74) (by decide) (by decide) ?_
      show Steps p.tables e below (T10.setTop (mkF m 127 (LS_IIRI p0 (4 : Int32) w_ObjectKind_FUNCTION (0 : Int32)) [])) _
      refine XS.aloadN X10.here hx rfl (hb hby at_127) rfl rfl ?_
      exact k
    obtain ⟨cq11, kq11, q11a, q11b, q11c⟩ := isOf hZ e10 E_ObjectKind_FUNCTION
    obtain ⟨_, _, ⟨T11, L11, k11, n11⟩, -, X11, ⟨Lc11, hQ11, l11, y11, z11⟩, st11⟩ := X10.virtualBack hx (y := (⟨"com/example/refbound/refbound/catalog/ObjectKind", "isType", "()Z"⟩ : MethodName)) (z := (⟨"com/example/refbound/refbound/catalog/ObjectKind", "isType", "()Z"⟩ : MethodName)) hown (mvT hZ (hw _ (List.mem_of_getElem? (i := 4) rfl))) (mvT hZ (hw _ (List.mem_of_getElem? (i := 5) rfl))) (notFace_of_selects (args := #[]) (mvT hZ (hw _ (List.mem_of_getElem? (i := 7) rfl)))) (mvT hZ (hw _ (List.mem_of_getElem? (i := 7) rfl))) (mvT hZ (hw _ (List.mem_of_getElem? (i := 6) rfl))) (by decide) (backOf (W := 0) (rm1 l Z a0 hw [] w_ObjectKind_FUNCTION w_ObjectKind_TYPE h0 n0 Z0 S_ObjectKind_TYPE) hZ (hw _ (List.mem_of_getElem? (i := 8) rfl)) (hw _ (List.mem_of_getElem? (i := 2) rfl)) (by decide) (by decide)) q11a q11c (g := (mkF m 128 (LS_IIRI p0 (4 : Int32) w_ObjectKind_FUNCTION (0 : Int32)) [(.ref w_ObjectKind_FUNCTION)])) rfl (by rw [hml]; rfl) (Steps.refl _) (argsL := []) (rest := []) (lenOf pd___Z rfl) rfl (by show 2 * 0 + _ ≤ _; exact Nat.le_of_eq rfl) (hb hby at_128) (fun _ _ => ⟨rfl, e10, (by decide : 0 + 0 ≤ _), (by decide : 0 + 0 ≤ _)⟩)
    dsimp only [Pt.U, Pt.locs, Pt.cells, Pt.slots] at X11 l11 y11 z11 st11 hQ11
    subst l11 y11 z11
    obtain ⟨rfl, N11q, e11⟩ := hQ11
    have N11 := Fr.app N0 N11q
    refine own_go (B := T11.setTop (mkF m 131 (LS_IIRI p0 (4 : Int32) w_ObjectKind_FUNCTION (0 : Int32)) [(.int (if w_ObjectKind_FUNCTION = w_ObjectKind_TYPE then (1 : Int32) else (0 : Int32)))])) (fun t k => st11.trans k) ?_
    rw [show (if w_ObjectKind_FUNCTION = w_ObjectKind_TYPE then (1 : Int32) else (0 : Int32)) = (0 : Int32) from if_neg (Fld.ne F_ObjectKind_FUNCTION_ordinal F_ObjectKind_TYPE_ordinal (by decide))]
    refine own_go (B := T11.setTop (mkF m 140 (LS_IIRI p0 (4 : Int32) w_ObjectKind_FUNCTION (0 : Int32)) [(.int (1 : Int32))])) (fun t k => ?_) ?_
    · show Steps p.tables e below (T11.setTop (mkF m 131 (LS_IIRI p0 (4 : Int32) w_ObjectKind_FUNCTION (0 : Int32)) [(.int (0 : Int32))])) _
      refine XS.iloadN X11.here hx rfl (hb hby at_131) rfl ?_
      show Steps p.tables e below (T11.setTop (mkF m 132 (LS_IIRI p0 (4 : Int32) w_ObjectKind_FUNCTION (0 : Int32)) [(.int (0 : Int32)), (.int (0 : Int32))])) _
      refine XS.icmpNo X11.here hx rfl (hb hby at_132) rfl (teq (by decide : (0 : Int32) = (0 : Int32))).2 ?_
      show Steps p.tables e below (T11.setTop (mkF m 135 (LS_IIRI p0 (4 : Int32) w_ObjectKind_FUNCTION (0 : Int32)) [])) _
      refine XS.iconst X11.here hx rfl (hb hby at_135) ?_
      show Steps p.tables e below (T11.setTop (mkF m 136 (LS_IIRI p0 (4 : Int32) w_ObjectKind_FUNCTION (0 : Int32)) [(.int (1 : Int32))])) _
      refine XS.goto X11.here hx rfl (pc0 := 136) (pc' := 140) rfl (hb hby at_136) (by decide) (by decide) ?_
      exact k
    obtain ⟨fs, hr, hrun, hended, hW, hsame⟩ := X11.leave (v := some (.int (1 : Int32))) (fun h => by rw [Bd.returns] at h; cases h)
    refine ⟨_, _, ?_, hrun, hended, _, _, rfl, ?_, ⟨_, rfl⟩, hW, hsame.mono (by decide) (by decide)⟩
    · show Steps p.tables e below (T11.setTop (mkF m 140 (LS_IIRI p0 (4 : Int32) w_ObjectKind_FUNCTION (0 : Int32)) [(.int (1 : Int32))])) _
      exact retN X11 hx (t := .boolean) Bd.returns (by simp) (hb hby at_140) hr
    · show Q0 Z p0 w_ObjectKind_TABLE w_ObjectKind_TYPE w_ObjectKind_CLR_PROCEDURE w_ObjectKind_PROCEDURE w_ObjectKind_VIEW w_ObjectKind_CLR_TRIGGER w_ObjectKind_FUNCTION w_ObjectKind_TRIGGER w_ObjectKind_CLR_FUNCTION h0 n0 _ T11.heap _
      rw [e11]
      exact ⟨rfl, N11⟩
  · rw [hk1]
    refine own_go (B := s₁.setTop (mkF m 82 (LS_IIuu p0 (5 : Int32)) [])) (fun t k => ?_) ?_
    · show Steps p.tables e below (s₁.setTop (mkF m 7 (LS_Iuuu p0) [(.int (5 : Int32))])) _
      refine XS.istoreN X0.here hx rfl (hb hby at_7) rfl (l' := (LS_IIuu p0 (5 : Int32))) rfl ?_
      show Steps p.tables e below (s₁.setTop (mkF m 8 (LS_IIuu p0 (5 : Int32)) [])) _
      refine XS.iloadN X0.here hx rfl (hb hby at_8) rfl ?_
      show Steps p.tables e below (s₁.setTop (mkF m 9 (LS_IIuu p0 (5 : Int32)) [(.int (5 : Int32))])) _
      refine XS.ifYes X0.here hx rfl (pc0 := 9) (pc' := 21) rfl (hb hby at_9) rfl ((if0 _ _).trans (feq (by decide : ¬ ((5 : Int32) = (0 : Int32)))).2) (by decide) (by decide) ?_
      show Steps p.tables e below (s₁.setTop (mkF m 21 (LS_IIuu p0 (5 : Int32)) [])) _
      refine XS.iloadN X0.here hx rfl (hb hby at_21) rfl ?_
      show Steps p.tables e below (s₁.setTop (mkF m 22 (LS_IIuu p0 (5 : Int32)) [(.int (5 : Int32))])) _
      refine XS.iconst X0.here hx rfl (hb hby at_22) ?_
      show Steps p.tables e below (s₁.setTop (mkF m 23 (LS_IIuu p0 (5 : Int32)) [(.int (1 : Int32)), (.int (5 : Int32))])) _
      refine XS.icmpYes X0.here hx rfl (pc0 := 23) (pc' := 35) rfl (hb hby at_23) rfl (feq (by decide : ¬ ((5 : Int32) = (1 : Int32)))).2 (by decide) (by decide) ?_
      show Steps p.tables e below (s₁.setTop (mkF m 35 (LS_IIuu p0 (5 : Int32)) [])) _
      refine XS.iloadN X0.here hx rfl (hb hby at_35) rfl ?_
      show Steps p.tables e below (s₁.setTop (mkF m 36 (LS_IIuu p0 (5 : Int32)) [(.int (5 : Int32))])) _
      refine XS.iconst X0.here hx rfl (hb hby at_36) ?_
      show Steps p.tables e below (s₁.setTop (mkF m 37 (LS_IIuu p0 (5 : Int32)) [(.int (2 : Int32)), (.int (5 : Int32))])) _
      refine XS.icmpYes X0.here hx rfl (pc0 := 37) (pc' := 49) rfl (hb hby at_37) rfl (feq (by decide : ¬ ((5 : Int32) = (2 : Int32)))).2 (by decide) (by decide) ?_
      show Steps p.tables e below (s₁.setTop (mkF m 49 (LS_IIuu p0 (5 : Int32)) [])) _
      refine XS.iloadN X0.here hx rfl (hb hby at_49) rfl ?_
      show Steps p.tables e below (s₁.setTop (mkF m 50 (LS_IIuu p0 (5 : Int32)) [(.int (5 : Int32))])) _
      refine XS.iconst X0.here hx rfl (hb hby at_50) ?_
      show Steps p.tables e below (s₁.setTop (mkF m 51 (LS_IIuu p0 (5 : Int32)) [(.int (3 : Int32)), (.int (5 : Int32))])) _
      refine XS.icmpYes X0.here hx rfl (pc0 := 51) (pc' := 63) rfl (hb hby at_51) rfl (feq (by decide : ¬ ((5 : Int32) = (3 : Int32)))).2 (by decide) (by decide) ?_
      show Steps p.tables e below (s₁.setTop (mkF m 63 (LS_IIuu p0 (5 : Int32)) [])) _
      refine XS.iloadN X0.here hx rfl (hb hby at_63) rfl ?_
      show Steps p.tables e below (s₁.setTop (mkF m 64 (LS_IIuu p0 (5 : Int32)) [(.int (5 : Int32))])) _
      refine XS.iconst X0.here hx rfl (hb hby at_64) ?_
      show Steps p.tables e below (s₁.setTop (mkF m 65 (LS_IIuu p0 (5 : Int32)) [(.int (4 : Int32)), (.int (5 : Int32))])) _
      refine XS.icmpYes X0.here hx rfl (pc0 := 65) (pc' := 77) rfl (hb hby at_65) rfl (feq (by decide : ¬ ((5 : Int32) = (4 : Int32)))).2 (by decide) (by decide) ?_
      show Steps p.tables e below (s₁.setTop (mkF m 77 (LS_IIuu p0 (5 : Int32)) [])) _
      refine XS.iloadN X0.here hx rfl (hb hby at_77) rfl ?_
      show Steps p.tables e below (s₁.setTop (mkF m 78 (LS_IIuu p0 (5 : Int32)) [(.int (5 : Int32))])) _
      refine XS.iconst X0.here hx rfl (hb hby at_78) ?_
      show Steps p.tables e below (s₁.setTop (mkF m 79 (LS_IIuu p0 (5 : Int32)) [(.int (5 : Int32)), (.int (5 : Int32))])) _
      refine XS.icmpNo X0.here hx rfl (hb hby at_79) rfl (teq (by decide : (5 : Int32) = (5 : Int32))).2 ?_
      exact k
    obtain ⟨T12, X12, e12, st12⟩ := getS2 X0 hx hZ hown (host := "") (Or.inl (hw _ (List.mem_of_getElem? (i := 24) rfl))) Via.refl e0 S_ObjectKind_CLR_FUNCTION (g := (mkF m 82 (LS_IIuu p0 (5 : Int32)) [])) rfl (hb hby at_82)
    refine own_go (B := T12.setTop (mkF m 85 (LS_IIuu p0 (5 : Int32)) [(.ref w_ObjectKind_CLR_FUNCTION)])) (fun t k => st12 _ k) ?_
    refine own_go (B := T12.setTop (mkF m 128 (LS_IIRI p0 (5 : Int32) w_ObjectKind_CLR_FUNCTION (0 : Int32)) [(.ref w_ObjectKind_CLR_FUNCTION)])) (fun t k => ?_) ?_
    · show Steps p.tables e below (T12.setTop (mkF m 85 (LS_IIuu p0 (5 : Int32)) [(.ref w_ObjectKind_CLR_FUNCTION)])) _
      refine XS.astoreN X12.here hx rfl (hb hby at_85) rfl rfl (l' := (LS_IIRu p0 (5 : Int32) w_ObjectKind_CLR_FUNCTION)) rfl ?_
      show Steps p.tables e below (T12.setTop (mkF m 86 (LS_IIRu p0 (5 : Int32) w_ObjectKind_CLR_FUNCTION) [])) _
      refine XS.iconst X12.here hx rfl (hb hby at_86) ?_
      show Steps p.tables e below (T12.setTop (mkF m 87 (LS_IIRu p0 (5 : Int32) w_ObjectKind_CLR_FUNCTION) [(.int (0 : Int32))])) _
      refine XS.istoreN X12.here hx rfl (hb hby at_87) rfl (l' := (LS_IIRI p0 (5 : Int32) w_ObjectKind_CLR_FUNCTION (0 : Int32))) rfl ?_
      show Steps p.tables e below (T12.setTop (mkF m 88 (LS_IIRI p0 (5 : Int32) w_ObjectKind_CLR_FUNCTION (0 : Int32)) [])) _
      refine XS.goto X12.here hx rfl (pc0 := 88) (pc' := 127) rfl (hb hby at_88) (by decide) (by decide) ?_
      show Steps p.tables e below (T12.setTop (mkF m 127 (LS_IIRI p0 (5 : Int32) w_ObjectKind_CLR_FUNCTION (0 : Int32)) [])) _
      refine XS.aloadN X12.here hx rfl (hb hby at_127) rfl rfl ?_
      exact k
    obtain ⟨cq13, kq13, q13a, q13b, q13c⟩ := isOf hZ e12 E_ObjectKind_CLR_FUNCTION
    obtain ⟨_, _, ⟨T13, L13, k13, n13⟩, -, X13, ⟨Lc13, hQ13, l13, y13, z13⟩, st13⟩ := X12.virtualBack hx (y := (⟨"com/example/refbound/refbound/catalog/ObjectKind", "isType", "()Z"⟩ : MethodName)) (z := (⟨"com/example/refbound/refbound/catalog/ObjectKind", "isType", "()Z"⟩ : MethodName)) hown (mvT hZ (hw _ (List.mem_of_getElem? (i := 4) rfl))) (mvT hZ (hw _ (List.mem_of_getElem? (i := 5) rfl))) (notFace_of_selects (args := #[]) (mvT hZ (hw _ (List.mem_of_getElem? (i := 7) rfl)))) (mvT hZ (hw _ (List.mem_of_getElem? (i := 7) rfl))) (mvT hZ (hw _ (List.mem_of_getElem? (i := 6) rfl))) (by decide) (backOf (W := 0) (rm1 l Z a0 hw [] w_ObjectKind_CLR_FUNCTION w_ObjectKind_TYPE h0 n0 Z0 S_ObjectKind_TYPE) hZ (hw _ (List.mem_of_getElem? (i := 8) rfl)) (hw _ (List.mem_of_getElem? (i := 2) rfl)) (by decide) (by decide)) q13a q13c (g := (mkF m 128 (LS_IIRI p0 (5 : Int32) w_ObjectKind_CLR_FUNCTION (0 : Int32)) [(.ref w_ObjectKind_CLR_FUNCTION)])) rfl (by rw [hml]; rfl) (Steps.refl _) (argsL := []) (rest := []) (lenOf pd___Z rfl) rfl (by show 2 * 0 + _ ≤ _; exact Nat.le_of_eq rfl) (hb hby at_128) (fun _ _ => ⟨rfl, e12, (by decide : 0 + 0 ≤ _), (by decide : 0 + 0 ≤ _)⟩)
    dsimp only [Pt.U, Pt.locs, Pt.cells, Pt.slots] at X13 l13 y13 z13 st13 hQ13
    subst l13 y13 z13
    obtain ⟨rfl, N13q, e13⟩ := hQ13
    have N13 := Fr.app N0 N13q
    refine own_go (B := T13.setTop (mkF m 131 (LS_IIRI p0 (5 : Int32) w_ObjectKind_CLR_FUNCTION (0 : Int32)) [(.int (if w_ObjectKind_CLR_FUNCTION = w_ObjectKind_TYPE then (1 : Int32) else (0 : Int32)))])) (fun t k => st13.trans k) ?_
    rw [show (if w_ObjectKind_CLR_FUNCTION = w_ObjectKind_TYPE then (1 : Int32) else (0 : Int32)) = (0 : Int32) from if_neg (Fld.ne F_ObjectKind_CLR_FUNCTION_ordinal F_ObjectKind_TYPE_ordinal (by decide))]
    refine own_go (B := T13.setTop (mkF m 140 (LS_IIRI p0 (5 : Int32) w_ObjectKind_CLR_FUNCTION (0 : Int32)) [(.int (1 : Int32))])) (fun t k => ?_) ?_
    · show Steps p.tables e below (T13.setTop (mkF m 131 (LS_IIRI p0 (5 : Int32) w_ObjectKind_CLR_FUNCTION (0 : Int32)) [(.int (0 : Int32))])) _
      refine XS.iloadN X13.here hx rfl (hb hby at_131) rfl ?_
      show Steps p.tables e below (T13.setTop (mkF m 132 (LS_IIRI p0 (5 : Int32) w_ObjectKind_CLR_FUNCTION (0 : Int32)) [(.int (0 : Int32)), (.int (0 : Int32))])) _
      refine XS.icmpNo X13.here hx rfl (hb hby at_132) rfl (teq (by decide : (0 : Int32) = (0 : Int32))).2 ?_
      show Steps p.tables e below (T13.setTop (mkF m 135 (LS_IIRI p0 (5 : Int32) w_ObjectKind_CLR_FUNCTION (0 : Int32)) [])) _
      refine XS.iconst X13.here hx rfl (hb hby at_135) ?_
      show Steps p.tables e below (T13.setTop (mkF m 136 (LS_IIRI p0 (5 : Int32) w_ObjectKind_CLR_FUNCTION (0 : Int32)) [(.int (1 : Int32))])) _
      refine XS.goto X13.here hx rfl (pc0 := 136) (pc' := 140) rfl (hb hby at_136) (by decide) (by decide) ?_
      exact k
    obtain ⟨fs, hr, hrun, hended, hW, hsame⟩ := X13.leave (v := some (.int (1 : Int32))) (fun h => by rw [Bd.returns] at h; cases h)
    refine ⟨_, _, ?_, hrun, hended, _, _, rfl, ?_, ⟨_, rfl⟩, hW, hsame.mono (by decide) (by decide)⟩
    · show Steps p.tables e below (T13.setTop (mkF m 140 (LS_IIRI p0 (5 : Int32) w_ObjectKind_CLR_FUNCTION (0 : Int32)) [(.int (1 : Int32))])) _
      exact retN X13 hx (t := .boolean) Bd.returns (by simp) (hb hby at_140) hr
    · show Q0 Z p0 w_ObjectKind_TABLE w_ObjectKind_TYPE w_ObjectKind_CLR_PROCEDURE w_ObjectKind_PROCEDURE w_ObjectKind_VIEW w_ObjectKind_CLR_TRIGGER w_ObjectKind_FUNCTION w_ObjectKind_TRIGGER w_ObjectKind_CLR_FUNCTION h0 n0 _ T13.heap _
      rw [e13]
      exact ⟨rfl, N13⟩
  · rw [hk1]
    refine own_go (B := s₁.setTop (mkF m 97 (LS_IIuu p0 (6 : Int32)) [])) (fun t k => ?_) ?_
    · show Steps p.tables e below (s₁.setTop (mkF m 7 (LS_Iuuu p0) [(.int (6 : Int32))])) _
      refine XS.istoreN X0.here hx rfl (hb hby at_7) rfl (l' := (LS_IIuu p0 (6 : Int32))) rfl ?_
      show Steps p.tables e below (s₁.setTop (mkF m 8 (LS_IIuu p0 (6 : Int32)) [])) _
      refine XS.iloadN X0.here hx rfl (hb hby at_8) rfl ?_
      show Steps p.tables e below (s₁.setTop (mkF m 9 (LS_IIuu p0 (6 : Int32)) [(.int (6 : Int32))])) _
      refine XS.ifYes X0.here hx rfl (pc0 := 9) (pc' := 21) rfl (hb hby at_9) rfl ((if0 _ _).trans (feq (by decide : ¬ ((6 : Int32) = (0 : Int32)))).2) (by decide) (by decide) ?_
      show Steps p.tables e below (s₁.setTop (mkF m 21 (LS_IIuu p0 (6 : Int32)) [])) _
      refine XS.iloadN X0.here hx rfl (hb hby at_21) rfl ?_
      show Steps p.tables e below (s₁.setTop (mkF m 22 (LS_IIuu p0 (6 : Int32)) [(.int (6 : Int32))])) _
      refine XS.iconst X0.here hx rfl (hb hby at_22) ?_
      show Steps p.tables e below (s₁.setTop (mkF m 23 (LS_IIuu p0 (6 : Int32)) [(.int (1 : Int32)), (.int (6 : Int32))])) _
      refine XS.icmpYes X0.here hx rfl (pc0 := 23) (pc' := 35) rfl (hb hby at_23) rfl (feq (by decide : ¬ ((6 : Int32) = (1 : Int32)))).2 (by decide) (by decide) ?_
      show Steps p.tables e below (s₁.setTop (mkF m 35 (LS_IIuu p0 (6 : Int32)) [])) _
      refine XS.iloadN X0.here hx rfl (hb hby at_35) rfl ?_
      show Steps p.tables e below (s₁.setTop (mkF m 36 (LS_IIuu p0 (6 : Int32)) [(.int (6 : Int32))])) _
      refine XS.iconst X0.here hx rfl (hb hby at_36) ?_
      show Steps p.tables e below (s₁.setTop (mkF m 37 (LS_IIuu p0 (6 : Int32)) [(.int (2 : Int32)), (.int (6 : Int32))])) _
      refine XS.icmpYes X0.here hx rfl (pc0 := 37) (pc' := 49) rfl (hb hby at_37) rfl (feq (by decide : ¬ ((6 : Int32) = (2 : Int32)))).2 (by decide) (by decide) ?_
      show Steps p.tables e below (s₁.setTop (mkF m 49 (LS_IIuu p0 (6 : Int32)) [])) _
      refine XS.iloadN X0.here hx rfl (hb hby at_49) rfl ?_
      show Steps p.tables e below (s₁.setTop (mkF m 50 (LS_IIuu p0 (6 : Int32)) [(.int (6 : Int32))])) _
      refine XS.iconst X0.here hx rfl (hb hby at_50) ?_
      show Steps p.tables e below (s₁.setTop (mkF m 51 (LS_IIuu p0 (6 : Int32)) [(.int (3 : Int32)), (.int (6 : Int32))])) _
      refine XS.icmpYes X0.here hx rfl (pc0 := 51) (pc' := 63) rfl (hb hby at_51) rfl (feq (by decide : ¬ ((6 : Int32) = (3 : Int32)))).2 (by decide) (by decide) ?_
      show Steps p.tables e below (s₁.setTop (mkF m 63 (LS_IIuu p0 (6 : Int32)) [])) _
      refine XS.iloadN X0.here hx rfl (hb hby at_63) rfl ?_
      show Steps p.tables e below (s₁.setTop (mkF m 64 (LS_IIuu p0 (6 : Int32)) [(.int (6 : Int32))])) _
      refine XS.iconst X0.here hx rfl (hb hby at_64) ?_
      show Steps p.tables e below (s₁.setTop (mkF m 65 (LS_IIuu p0 (6 : Int32)) [(.int (4 : Int32)), (.int (6 : Int32))])) _
      refine XS.icmpYes X0.here hx rfl (pc0 := 65) (pc' := 77) rfl (hb hby at_65) rfl (feq (by decide : ¬ ((6 : Int32) = (4 : Int32)))).2 (by decide) (by decide) ?_
      show Steps p.tables e below (s₁.setTop (mkF m 77 (LS_IIuu p0 (6 : Int32)) [])) _
      refine XS.iloadN X0.here hx rfl (hb hby at_77) rfl ?_
      show Steps p.tables e below (s₁.setTop (mkF m 78 (LS_IIuu p0 (6 : Int32)) [(.int (6 : Int32))])) _
      refine XS.iconst X0.here hx rfl (hb hby at_78) ?_
      show Steps p.tables e below (s₁.setTop (mkF m 79 (LS_IIuu p0 (6 : Int32)) [(.int (5 : Int32)), (.int (6 : Int32))])) _
      refine XS.icmpYes X0.here hx rfl (pc0 := 79) (pc' := 91) rfl (hb hby at_79) rfl (feq (by decide : ¬ ((6 : Int32) = (5 : Int32)))).2 (by decide) (by decide) ?_
      show Steps p.tables e below (s₁.setTop (mkF m 91 (LS_IIuu p0 (6 : Int32)) [])) _
      refine XS.iloadN X0.here hx rfl (hb hby at_91) rfl ?_
      show Steps p.tables e below (s₁.setTop (mkF m 92 (LS_IIuu p0 (6 : Int32)) [(.int (6 : Int32))])) _
      refine XS.bipush X0.here hx rfl (hb hby at_92) ?_
      show Steps p.tables e below (s₁.setTop (mkF m 94 (LS_IIuu p0 (6 : Int32)) [(.int (6 : Int32)), (.int (6 : Int32))])) _
      refine XS.icmpNo X0.here hx rfl (hb hby at_94) rfl (teq (by decide : (6 : Int32) = (6 : Int32))).2 ?_
      exact k
    obtain ⟨T14, X14, e14, st14⟩ := getS2 X0 hx hZ hown (host := "") (Or.inl (hw _ (List.mem_of_getElem? (i := 22) rfl))) Via.refl e0 S_ObjectKind_TRIGGER (g := (mkF m 97 (LS_IIuu p0 (6 : Int32)) [])) rfl (hb hby at_97)
    refine own_go (B := T14.setTop (mkF m 100 (LS_IIuu p0 (6 : Int32)) [(.ref w_ObjectKind_TRIGGER)])) (fun t k => st14 _ k) ?_
    refine own_go (B := T14.setTop (mkF m 128 (LS_IIRI p0 (6 : Int32) w_ObjectKind_TRIGGER (0 : Int32)) [(.ref w_ObjectKind_TRIGGER)])) (fun t k => ?_) ?_
    · show Steps p.tables e below (T14.setTop (mkF m 100 (LS_IIuu p0 (6 : Int32)) [(.ref w_ObjectKind_TRIGGER)])) _
      refine XS.astoreN X14.here hx rfl (hb hby at_100) rfl rfl (l' := (LS_IIRu p0 (6 : Int32) w_ObjectKind_TRIGGER)) rfl ?_
      show Steps p.tables e below (T14.setTop (mkF m 101 (LS_IIRu p0 (6 : Int32) w_ObjectKind_TRIGGER) [])) _
      refine XS.iconst X14.here hx rfl (hb hby at_101) ?_
      show Steps p.tables e below (T14.setTop (mkF m 102 (LS_IIRu p0 (6 : Int32) w_ObjectKind_TRIGGER) [(.int (0 : Int32))])) _
      refine XS.istoreN X14.here hx rfl (hb hby at_102) rfl (l' := (LS_IIRI p0 (6 : Int32) w_ObjectKind_TRIGGER (0 : Int32))) rfl ?_
      show Steps p.tables e below (T14.setTop (mkF m 103 (LS_IIRI p0 (6 : Int32) w_ObjectKind_TRIGGER (0 : Int32)) [])) _
      refine XS.goto X14.here hx rfl (pc0 := 103) (pc' := 127) rfl (hb hby at_103) (by decide) (by decide) ?_
      show Steps p.tables e below (T14.setTop (mkF m 127 (LS_IIRI p0 (6 : Int32) w_ObjectKind_TRIGGER (0 : Int32)) [])) _
      refine XS.aloadN X14.here hx rfl (hb hby at_127) rfl rfl ?_
      exact k
    obtain ⟨cq15, kq15, q15a, q15b, q15c⟩ := isOf hZ e14 E_ObjectKind_TRIGGER
    obtain ⟨_, _, ⟨T15, L15, k15, n15⟩, -, X15, ⟨Lc15, hQ15, l15, y15, z15⟩, st15⟩ := X14.virtualBack hx (y := (⟨"com/example/refbound/refbound/catalog/ObjectKind", "isType", "()Z"⟩ : MethodName)) (z := (⟨"com/example/refbound/refbound/catalog/ObjectKind", "isType", "()Z"⟩ : MethodName)) hown (mvT hZ (hw _ (List.mem_of_getElem? (i := 4) rfl))) (mvT hZ (hw _ (List.mem_of_getElem? (i := 5) rfl))) (notFace_of_selects (args := #[]) (mvT hZ (hw _ (List.mem_of_getElem? (i := 7) rfl)))) (mvT hZ (hw _ (List.mem_of_getElem? (i := 7) rfl))) (mvT hZ (hw _ (List.mem_of_getElem? (i := 6) rfl))) (by decide) (backOf (W := 0) (rm1 l Z a0 hw [] w_ObjectKind_TRIGGER w_ObjectKind_TYPE h0 n0 Z0 S_ObjectKind_TYPE) hZ (hw _ (List.mem_of_getElem? (i := 8) rfl)) (hw _ (List.mem_of_getElem? (i := 2) rfl)) (by decide) (by decide)) q15a q15c (g := (mkF m 128 (LS_IIRI p0 (6 : Int32) w_ObjectKind_TRIGGER (0 : Int32)) [(.ref w_ObjectKind_TRIGGER)])) rfl (by rw [hml]; rfl) (Steps.refl _) (argsL := []) (rest := []) (lenOf pd___Z rfl) rfl (by show 2 * 0 + _ ≤ _; exact Nat.le_of_eq rfl) (hb hby at_128) (fun _ _ => ⟨rfl, e14, (by decide : 0 + 0 ≤ _), (by decide : 0 + 0 ≤ _)⟩)
    dsimp only [Pt.U, Pt.locs, Pt.cells, Pt.slots] at X15 l15 y15 z15 st15 hQ15
    subst l15 y15 z15
    obtain ⟨rfl, N15q, e15⟩ := hQ15
    have N15 := Fr.app N0 N15q
    refine own_go (B := T15.setTop (mkF m 131 (LS_IIRI p0 (6 : Int32) w_ObjectKind_TRIGGER (0 : Int32)) [(.int (if w_ObjectKind_TRIGGER = w_ObjectKind_TYPE then (1 : Int32) else (0 : Int32)))])) (fun t k => st15.trans k) ?_
    rw [show (if w_ObjectKind_TRIGGER = w_ObjectKind_TYPE then (1 : Int32) else (0 : Int32)) = (0 : Int32) from if_neg (Fld.ne F_ObjectKind_TRIGGER_ordinal F_ObjectKind_TYPE_ordinal (by decide))]
    refine own_go (B := T15.setTop (mkF m 140 (LS_IIRI p0 (6 : Int32) w_ObjectKind_TRIGGER (0 : Int32)) [(.int (1 : Int32))])) (fun t k => ?_) ?_
    · show Steps p.tables e below (T15.setTop (mkF m 131 (LS_IIRI p0 (6 : Int32) w_ObjectKind_TRIGGER (0 : Int32)) [(.int (0 : Int32))])) _
      refine XS.iloadN X15.here hx rfl (hb hby at_131) rfl ?_
      show Steps p.tables e below (T15.setTop (mkF m 132 (LS_IIRI p0 (6 : Int32) w_ObjectKind_TRIGGER (0 : Int32)) [(.int (0 : Int32)), (.int (0 : Int32))])) _
      refine XS.icmpNo X15.here hx rfl (hb hby at_132) rfl (teq (by decide : (0 : Int32) = (0 : Int32))).2 ?_
      show Steps p.tables e below (T15.setTop (mkF m 135 (LS_IIRI p0 (6 : Int32) w_ObjectKind_TRIGGER (0 : Int32)) [])) _
      refine XS.iconst X15.here hx rfl (hb hby at_135) ?_
      show Steps p.tables e below (T15.setTop (mkF m 136 (LS_IIRI p0 (6 : Int32) w_ObjectKind_TRIGGER (0 : Int32)) [(.int (1 : Int32))])) _
      refine XS.goto X15.here hx rfl (pc0 := 136) (pc' := 140) rfl (hb hby at_136) (by decide) (by decide) ?_
      exact k
    obtain ⟨fs, hr, hrun, hended, hW, hsame⟩ := X15.leave (v := some (.int (1 : Int32))) (fun h => by rw [Bd.returns] at h; cases h)
    refine ⟨_, _, ?_, hrun, hended, _, _, rfl, ?_, ⟨_, rfl⟩, hW, hsame.mono (by decide) (by decide)⟩
    · show Steps p.tables e below (T15.setTop (mkF m 140 (LS_IIRI p0 (6 : Int32) w_ObjectKind_TRIGGER (0 : Int32)) [(.int (1 : Int32))])) _
      exact retN X15 hx (t := .boolean) Bd.returns (by simp) (hb hby at_140) hr
    · show Q0 Z p0 w_ObjectKind_TABLE w_ObjectKind_TYPE w_ObjectKind_CLR_PROCEDURE w_ObjectKind_PROCEDURE w_ObjectKind_VIEW w_ObjectKind_CLR_TRIGGER w_ObjectKind_FUNCTION w_ObjectKind_TRIGGER w_ObjectKind_CLR_FUNCTION h0 n0 _ T15.heap _
      rw [e15]
      exact ⟨rfl, N15⟩
  · rw [hk1]
    refine own_go (B := s₁.setTop (mkF m 112 (LS_IIuu p0 (7 : Int32)) [])) (fun t k => ?_) ?_
    · show Steps p.tables e below (s₁.setTop (mkF m 7 (LS_Iuuu p0) [(.int (7 : Int32))])) _
      refine XS.istoreN X0.here hx rfl (hb hby at_7) rfl (l' := (LS_IIuu p0 (7 : Int32))) rfl ?_
      show Steps p.tables e below (s₁.setTop (mkF m 8 (LS_IIuu p0 (7 : Int32)) [])) _
      refine XS.iloadN X0.here hx rfl (hb hby at_8) rfl ?_
      show Steps p.tables e below (s₁.setTop (mkF m 9 (LS_IIuu p0 (7 : Int32)) [(.int (7 : Int32))])) _
      refine XS.ifYes X0.here hx rfl (pc0 := 9) (pc' := 21) rfl (hb hby at_9) rfl ((if0 _ _).trans (feq (by decide : ¬ ((7 : Int32) = (0 : Int32)))).2) (by decide) (by decide) ?_
      show Steps p.tables e below (s₁.setTop (mkF m 21 (LS_IIuu p0 (7 : Int32)) [])) _
      refine XS.iloadN X0.here hx rfl (hb hby at_21) rfl ?_
      show Steps p.tables e below (s₁.setTop (mkF m 22 (LS_IIuu p0 (7 : Int32)) [(.int (7 : Int32))])) _
      refine XS.iconst X0.here hx rfl (hb hby at_22) ?_
      show Steps p.tables e below (s₁.setTop (mkF m 23 (LS_IIuu p0 (7 : Int32)) [(.int (1 : Int32)), (.int (7 : Int32))])) _
      refine XS.icmpYes X0.here hx rfl (pc0 := 23) (pc' := 35) rfl (hb hby at_23) rfl (feq (by decide : ¬ ((7 : Int32) = (1 : Int32)))).2 (by decide) (by decide) ?_
      show Steps p.tables e below (s₁.setTop (mkF m 35 (LS_IIuu p0 (7 : Int32)) [])) _
      refine XS.iloadN X0.here hx rfl (hb hby at_35) rfl ?_
      show Steps p.tables e below (s₁.setTop (mkF m 36 (LS_IIuu p0 (7 : Int32)) [(.int (7 : Int32))])) _
      refine XS.iconst X0.here hx rfl (hb hby at_36) ?_
      show Steps p.tables e below (s₁.setTop (mkF m 37 (LS_IIuu p0 (7 : Int32)) [(.int (2 : Int32)), (.int (7 : Int32))])) _
      refine XS.icmpYes X0.here hx rfl (pc0 := 37) (pc' := 49) rfl (hb hby at_37) rfl (feq (by decide : ¬ ((7 : Int32) = (2 : Int32)))).2 (by decide) (by decide) ?_
      show Steps p.tables e below (s₁.setTop (mkF m 49 (LS_IIuu p0 (7 : Int32)) [])) _
      refine XS.iloadN X0.here hx rfl (hb hby at_49) rfl ?_
      show Steps p.tables e below (s₁.setTop (mkF m 50 (LS_IIuu p0 (7 : Int32)) [(.int (7 : Int32))])) _
      refine XS.iconst X0.here hx rfl (hb hby at_50) ?_
      show Steps p.tables e below (s₁.setTop (mkF m 51 (LS_IIuu p0 (7 : Int32)) [(.int (3 : Int32)), (.int (7 : Int32))])) _
      refine XS.icmpYes X0.here hx rfl (pc0 := 51) (pc' := 63) rfl (hb hby at_51) rfl (feq (by decide : ¬ ((7 : Int32) = (3 : Int32)))).2 (by decide) (by decide) ?_
      show Steps p.tables e below (s₁.setTop (mkF m 63 (LS_IIuu p0 (7 : Int32)) [])) _
      refine XS.iloadN X0.here hx rfl (hb hby at_63) rfl ?_
      show Steps p.tables e below (s₁.setTop (mkF m 64 (LS_IIuu p0 (7 : Int32)) [(.int (7 : Int32))])) _
      refine XS.iconst X0.here hx rfl (hb hby at_64) ?_
      show Steps p.tables e below (s₁.setTop (mkF m 65 (LS_IIuu p0 (7 : Int32)) [(.int (4 : Int32)), (.int (7 : Int32))])) _
      refine XS.icmpYes X0.here hx rfl (pc0 := 65) (pc' := 77) rfl (hb hby at_65) rfl (feq (by decide : ¬ ((7 : Int32) = (4 : Int32)))).2 (by decide) (by decide) ?_
      show Steps p.tables e below (s₁.setTop (mkF m 77 (LS_IIuu p0 (7 : Int32)) [])) _
      refine XS.iloadN X0.here hx rfl (hb hby at_77) rfl ?_
      show Steps p.tables e below (s₁.setTop (mkF m 78 (LS_IIuu p0 (7 : Int32)) [(.int (7 : Int32))])) _
      refine XS.iconst X0.here hx rfl (hb hby at_78) ?_
      show Steps p.tables e below (s₁.setTop (mkF m 79 (LS_IIuu p0 (7 : Int32)) [(.int (5 : Int32)), (.int (7 : Int32))])) _
      refine XS.icmpYes X0.here hx rfl (pc0 := 79) (pc' := 91) rfl (hb hby at_79) rfl (feq (by decide : ¬ ((7 : Int32) = (5 : Int32)))).2 (by decide) (by decide) ?_
      show Steps p.tables e below (s₁.setTop (mkF m 91 (LS_IIuu p0 (7 : Int32)) [])) _
      refine XS.iloadN X0.here hx rfl (hb hby at_91) rfl ?_
      show Steps p.tables e below (s₁.setTop (mkF m 92 (LS_IIuu p0 (7 : Int32)) [(.int (7 : Int32))])) _
      refine XS.bipush X0.here hx rfl (hb hby at_92) ?_
      show Steps p.tables e below (s₁.setTop (mkF m 94 (LS_IIuu p0 (7 : Int32)) [(.int (6 : Int32)), (.int (7 : Int32))])) _
      refine XS.icmpYes X0.here hx rfl (pc0 := 94) (pc' := 106) rfl (hb hby at_94) rfl (feq (by decide : ¬ ((7 : Int32) = (6 : Int32)))).2 (by decide) (by decide) ?_
      show Steps p.tables e below (s₁.setTop (mkF m 106 (LS_IIuu p0 (7 : Int32)) [])) _
      refine XS.iloadN X0.here hx rfl (hb hby at_106) rfl ?_
      show Steps p.tables e below (s₁.setTop (mkF m 107 (LS_IIuu p0 (7 : Int32)) [(.int (7 : Int32))])) _
      refine XS.bipush X0.here hx rfl (hb hby at_107) ?_
      show Steps p.tables e below (s₁.setTop (mkF m 109 (LS_IIuu p0 (7 : Int32)) [(.int (7 : Int32)), (.int (7 : Int32))])) _
      refine XS.icmpNo X0.here hx rfl (hb hby at_109) rfl (teq (by decide : (7 : Int32) = (7 : Int32))).2 ?_
      exact k
    obtain ⟨T16, X16, e16, st16⟩ := getS2 X0 hx hZ hown (host := "") (Or.inl (hw _ (List.mem_of_getElem? (i := 17) rfl))) Via.refl e0 S_ObjectKind_CLR_TRIGGER (g := (mkF m 112 (LS_IIuu p0 (7 : Int32)) [])) rfl (hb hby at_112)
    refine own_go (B := T16.setTop (mkF m 115 (LS_IIuu p0 (7 : Int32)) [(.ref w_ObjectKind_CLR_TRIGGER)])) (fun t k => st16 _ k) ?_
    refine own_go (B := T16.setTop (mkF m 128 (LS_IIRI p0 (7 : Int32) w_ObjectKind_CLR_TRIGGER (0 : Int32)) [(.ref w_ObjectKind_CLR_TRIGGER)])) (fun t k => ?_) ?_
    · show Steps p.tables e below (T16.setTop (mkF m 115 (LS_IIuu p0 (7 : Int32)) [(.ref w_ObjectKind_CLR_TRIGGER)])) _
      refine XS.astoreN X16.here hx rfl (hb hby at_115) rfl rfl (l' := (LS_IIRu p0 (7 : Int32) w_ObjectKind_CLR_TRIGGER)) rfl ?_
      show Steps p.tables e below (T16.setTop (mkF m 116 (LS_IIRu p0 (7 : Int32) w_ObjectKind_CLR_TRIGGER) [])) _
      refine XS.iconst X16.here hx rfl (hb hby at_116) ?_
      show Steps p.tables e below (T16.setTop (mkF m 117 (LS_IIRu p0 (7 : Int32) w_ObjectKind_CLR_TRIGGER) [(.int (0 : Int32))])) _
      refine XS.istoreN X16.here hx rfl (hb hby at_117) rfl (l' := (LS_IIRI p0 (7 : Int32) w_ObjectKind_CLR_TRIGGER (0 : Int32))) rfl ?_
      show Steps p.tables e below (T16.setTop (mkF m 118 (LS_IIRI p0 (7 : Int32) w_ObjectKind_CLR_TRIGGER (0 : Int32)) [])) _
      refine XS.goto X16.here hx rfl (pc0 := 118) (pc' := 127) rfl (hb hby at_118) (by decide) (by decide) ?_
      show Steps p.tables e below (T16.setTop (mkF m 127 (LS_IIRI p0 (7 : Int32) w_ObjectKind_CLR_TRIGGER (0 : Int32)) [])) _
      refine XS.aloadN X16.here hx rfl (hb hby at_127) rfl rfl ?_
      exact k
    obtain ⟨cq17, kq17, q17a, q17b, q17c⟩ := isOf hZ e16 E_ObjectKind_CLR_TRIGGER
    obtain ⟨_, _, ⟨T17, L17, k17, n17⟩, -, X17, ⟨Lc17, hQ17, l17, y17, z17⟩, st17⟩ := X16.virtualBack hx (y := (⟨"com/example/refbound/refbound/catalog/ObjectKind", "isType", "()Z"⟩ : MethodName)) (z := (⟨"com/example/refbound/refbound/catalog/ObjectKind", "isType", "()Z"⟩ : MethodName)) hown (mvT hZ (hw _ (List.mem_of_getElem? (i := 4) rfl))) (mvT hZ (hw _ (List.mem_of_getElem? (i := 5) rfl))) (notFace_of_selects (args := #[]) (mvT hZ (hw _ (List.mem_of_getElem? (i := 7) rfl)))) (mvT hZ (hw _ (List.mem_of_getElem? (i := 7) rfl))) (mvT hZ (hw _ (List.mem_of_getElem? (i := 6) rfl))) (by decide) (backOf (W := 0) (rm1 l Z a0 hw [] w_ObjectKind_CLR_TRIGGER w_ObjectKind_TYPE h0 n0 Z0 S_ObjectKind_TYPE) hZ (hw _ (List.mem_of_getElem? (i := 8) rfl)) (hw _ (List.mem_of_getElem? (i := 2) rfl)) (by decide) (by decide)) q17a q17c (g := (mkF m 128 (LS_IIRI p0 (7 : Int32) w_ObjectKind_CLR_TRIGGER (0 : Int32)) [(.ref w_ObjectKind_CLR_TRIGGER)])) rfl (by rw [hml]; rfl) (Steps.refl _) (argsL := []) (rest := []) (lenOf pd___Z rfl) rfl (by show 2 * 0 + _ ≤ _; exact Nat.le_of_eq rfl) (hb hby at_128) (fun _ _ => ⟨rfl, e16, (by decide : 0 + 0 ≤ _), (by decide : 0 + 0 ≤ _)⟩)
    dsimp only [Pt.U, Pt.locs, Pt.cells, Pt.slots] at X17 l17 y17 z17 st17 hQ17
    subst l17 y17 z17
    obtain ⟨rfl, N17q, e17⟩ := hQ17
    have N17 := Fr.app N0 N17q
    refine own_go (B := T17.setTop (mkF m 131 (LS_IIRI p0 (7 : Int32) w_ObjectKind_CLR_TRIGGER (0 : Int32)) [(.int (if w_ObjectKind_CLR_TRIGGER = w_ObjectKind_TYPE then (1 : Int32) else (0 : Int32)))])) (fun t k => st17.trans k) ?_
    rw [show (if w_ObjectKind_CLR_TRIGGER = w_ObjectKind_TYPE then (1 : Int32) else (0 : Int32)) = (0 : Int32) from if_neg (Fld.ne F_ObjectKind_CLR_TRIGGER_ordinal F_ObjectKind_TYPE_ordinal (by decide))]
    refine own_go (B := T17.setTop (mkF m 140 (LS_IIRI p0 (7 : Int32) w_ObjectKind_CLR_TRIGGER (0 : Int32)) [(.int (1 : Int32))])) (fun t k => ?_) ?_
    · show Steps p.tables e below (T17.setTop (mkF m 131 (LS_IIRI p0 (7 : Int32) w_ObjectKind_CLR_TRIGGER (0 : Int32)) [(.int (0 : Int32))])) _
      refine XS.iloadN X17.here hx rfl (hb hby at_131) rfl ?_
      show Steps p.tables e below (T17.setTop (mkF m 132 (LS_IIRI p0 (7 : Int32) w_ObjectKind_CLR_TRIGGER (0 : Int32)) [(.int (0 : Int32)), (.int (0 : Int32))])) _
      refine XS.icmpNo X17.here hx rfl (hb hby at_132) rfl (teq (by decide : (0 : Int32) = (0 : Int32))).2 ?_
      show Steps p.tables e below (T17.setTop (mkF m 135 (LS_IIRI p0 (7 : Int32) w_ObjectKind_CLR_TRIGGER (0 : Int32)) [])) _
      refine XS.iconst X17.here hx rfl (hb hby at_135) ?_
      show Steps p.tables e below (T17.setTop (mkF m 136 (LS_IIRI p0 (7 : Int32) w_ObjectKind_CLR_TRIGGER (0 : Int32)) [(.int (1 : Int32))])) _
      refine XS.goto X17.here hx rfl (pc0 := 136) (pc' := 140) rfl (hb hby at_136) (by decide) (by decide) ?_
      exact k
    obtain ⟨fs, hr, hrun, hended, hW, hsame⟩ := X17.leave (v := some (.int (1 : Int32))) (fun h => by rw [Bd.returns] at h; cases h)
    refine ⟨_, _, ?_, hrun, hended, _, _, rfl, ?_, ⟨_, rfl⟩, hW, hsame.mono (by decide) (by decide)⟩
    · show Steps p.tables e below (T17.setTop (mkF m 140 (LS_IIRI p0 (7 : Int32) w_ObjectKind_CLR_TRIGGER (0 : Int32)) [(.int (1 : Int32))])) _
      exact retN X17 hx (t := .boolean) Bd.returns (by simp) (hb hby at_140) hr
    · show Q0 Z p0 w_ObjectKind_TABLE w_ObjectKind_TYPE w_ObjectKind_CLR_PROCEDURE w_ObjectKind_PROCEDURE w_ObjectKind_VIEW w_ObjectKind_CLR_TRIGGER w_ObjectKind_FUNCTION w_ObjectKind_TRIGGER w_ObjectKind_CLR_FUNCTION h0 n0 _ T17.heap _
      rw [e17]
      exact ⟨rfl, N17⟩
  · rw [hk1]
    refine own_go (B := s₁.setTop (mkF m 121 (LS_IIuu p0 (8 : Int32)) [])) (fun t k => ?_) ?_
    · show Steps p.tables e below (s₁.setTop (mkF m 7 (LS_Iuuu p0) [(.int (8 : Int32))])) _
      refine XS.istoreN X0.here hx rfl (hb hby at_7) rfl (l' := (LS_IIuu p0 (8 : Int32))) rfl ?_
      show Steps p.tables e below (s₁.setTop (mkF m 8 (LS_IIuu p0 (8 : Int32)) [])) _
      refine XS.iloadN X0.here hx rfl (hb hby at_8) rfl ?_
      show Steps p.tables e below (s₁.setTop (mkF m 9 (LS_IIuu p0 (8 : Int32)) [(.int (8 : Int32))])) _
      refine XS.ifYes X0.here hx rfl (pc0 := 9) (pc' := 21) rfl (hb hby at_9) rfl ((if0 _ _).trans (feq (by decide : ¬ ((8 : Int32) = (0 : Int32)))).2) (by decide) (by decide) ?_
      show Steps p.tables e below (s₁.setTop (mkF m 21 (LS_IIuu p0 (8 : Int32)) [])) _
      refine XS.iloadN X0.here hx rfl (hb hby at_21) rfl ?_
      show Steps p.tables e below (s₁.setTop (mkF m 22 (LS_IIuu p0 (8 : Int32)) [(.int (8 : Int32))])) _
      refine XS.iconst X0.here hx rfl (hb hby at_22) ?_
      show Steps p.tables e below (s₁.setTop (mkF m 23 (LS_IIuu p0 (8 : Int32)) [(.int (1 : Int32)), (.int (8 : Int32))])) _
      refine XS.icmpYes X0.here hx rfl (pc0 := 23) (pc' := 35) rfl (hb hby at_23) rfl (feq (by decide : ¬ ((8 : Int32) = (1 : Int32)))).2 (by decide) (by decide) ?_
      show Steps p.tables e below (s₁.setTop (mkF m 35 (LS_IIuu p0 (8 : Int32)) [])) _
      refine XS.iloadN X0.here hx rfl (hb hby at_35) rfl ?_
      show Steps p.tables e below (s₁.setTop (mkF m 36 (LS_IIuu p0 (8 : Int32)) [(.int (8 : Int32))])) _
      refine XS.iconst X0.here hx rfl (hb hby at_36) ?_
      show Steps p.tables e below (s₁.setTop (mkF m 37 (LS_IIuu p0 (8 : Int32)) [(.int (2 : Int32)), (.int (8 : Int32))])) _
      refine XS.icmpYes X0.here hx rfl (pc0 := 37) (pc' := 49) rfl (hb hby at_37) rfl (feq (by decide : ¬ ((8 : Int32) = (2 : Int32)))).2 (by decide) (by decide) ?_
      show Steps p.tables e below (s₁.setTop (mkF m 49 (LS_IIuu p0 (8 : Int32)) [])) _
      refine XS.iloadN X0.here hx rfl (hb hby at_49) rfl ?_
      show Steps p.tables e below (s₁.setTop (mkF m 50 (LS_IIuu p0 (8 : Int32)) [(.int (8 : Int32))])) _
      refine XS.iconst X0.here hx rfl (hb hby at_50) ?_
      show Steps p.tables e below (s₁.setTop (mkF m 51 (LS_IIuu p0 (8 : Int32)) [(.int (3 : Int32)), (.int (8 : Int32))])) _
      refine XS.icmpYes X0.here hx rfl (pc0 := 51) (pc' := 63) rfl (hb hby at_51) rfl (feq (by decide : ¬ ((8 : Int32) = (3 : Int32)))).2 (by decide) (by decide) ?_
      show Steps p.tables e below (s₁.setTop (mkF m 63 (LS_IIuu p0 (8 : Int32)) [])) _
      refine XS.iloadN X0.here hx rfl (hb hby at_63) rfl ?_
      show Steps p.tables e below (s₁.setTop (mkF m 64 (LS_IIuu p0 (8 : Int32)) [(.int (8 : Int32))])) _
      refine XS.iconst X0.here hx rfl (hb hby at_64) ?_
      show Steps p.tables e below (s₁.setTop (mkF m 65 (LS_IIuu p0 (8 : Int32)) [(.int (4 : Int32)), (.int (8 : Int32))])) _
      refine XS.icmpYes X0.here hx rfl (pc0 := 65) (pc' := 77) rfl (hb hby at_65) rfl (feq (by decide : ¬ ((8 : Int32) = (4 : Int32)))).2 (by decide) (by decide) ?_
      show Steps p.tables e below (s₁.setTop (mkF m 77 (LS_IIuu p0 (8 : Int32)) [])) _
      refine XS.iloadN X0.here hx rfl (hb hby at_77) rfl ?_
      show Steps p.tables e below (s₁.setTop (mkF m 78 (LS_IIuu p0 (8 : Int32)) [(.int (8 : Int32))])) _
      refine XS.iconst X0.here hx rfl (hb hby at_78) ?_
      show Steps p.tables e below (s₁.setTop (mkF m 79 (LS_IIuu p0 (8 : Int32)) [(.int (5 : Int32)), (.int (8 : Int32))])) _
      refine XS.icmpYes X0.here hx rfl (pc0 := 79) (pc' := 91) rfl (hb hby at_79) rfl (feq (by decide : ¬ ((8 : Int32) = (5 : Int32)))).2 (by decide) (by decide) ?_
      show Steps p.tables e below (s₁.setTop (mkF m 91 (LS_IIuu p0 (8 : Int32)) [])) _
      refine XS.iloadN X0.here hx rfl (hb hby at_91) rfl ?_
      show Steps p.tables e below (s₁.setTop (mkF m 92 (LS_IIuu p0 (8 : Int32)) [(.int (8 : Int32))])) _
      refine XS.bipush X0.here hx rfl (hb hby at_92) ?_
      show Steps p.tables e below (s₁.setTop (mkF m 94 (LS_IIuu p0 (8 : Int32)) [(.int (6 : Int32)), (.int (8 : Int32))])) _
      refine XS.icmpYes X0.here hx rfl (pc0 := 94) (pc' := 106) rfl (hb hby at_94) rfl (feq (by decide : ¬ ((8 : Int32) = (6 : Int32)))).2 (by decide) (by decide) ?_
      show Steps p.tables e below (s₁.setTop (mkF m 106 (LS_IIuu p0 (8 : Int32)) [])) _
      refine XS.iloadN X0.here hx rfl (hb hby at_106) rfl ?_
      show Steps p.tables e below (s₁.setTop (mkF m 107 (LS_IIuu p0 (8 : Int32)) [(.int (8 : Int32))])) _
      refine XS.bipush X0.here hx rfl (hb hby at_107) ?_
      show Steps p.tables e below (s₁.setTop (mkF m 109 (LS_IIuu p0 (8 : Int32)) [(.int (7 : Int32)), (.int (8 : Int32))])) _
      refine XS.icmpYes X0.here hx rfl (pc0 := 109) (pc' := 121) rfl (hb hby at_109) rfl (feq (by decide : ¬ ((8 : Int32) = (7 : Int32)))).2 (by decide) (by decide) ?_
      exact k
    obtain ⟨T18, X18, e18, st18⟩ := getS2 X0 hx hZ hown (host := "") (Or.inl (hw _ (List.mem_of_getElem? (i := 21) rfl))) Via.refl e0 S_ObjectKind_TYPE (g := (mkF m 121 (LS_IIuu p0 (8 : Int32)) [])) rfl (hb hby at_121)
    refine own_go (B := T18.setTop (mkF m 124 (LS_IIuu p0 (8 : Int32)) [(.ref w_ObjectKind_TYPE)])) (fun t k => st18 _ k) ?_
    refine own_go (B := T18.setTop (mkF m 128 (LS_IIRI p0 (8 : Int32) w_ObjectKind_TYPE (1 : Int32)) [(.ref w_ObjectKind_TYPE)])) (fun t k => ?_) ?_
    · show Steps p.tables e below (T18.setTop (mkF m 124 (LS_IIuu p0 (8 : Int32)) [(.ref w_ObjectKind_TYPE)])) _
      refine XS.astoreN X18.here hx rfl (hb hby at_124) rfl rfl (l' := (LS_IIRu p0 (8 : Int32) w_ObjectKind_TYPE)) rfl ?_
      show Steps p.tables e below (T18.setTop (mkF m 125 (LS_IIRu p0 (8 : Int32) w_ObjectKind_TYPE) [])) _
      refine XS.iconst X18.here hx rfl (hb hby at_125) ?_
      show Steps p.tables e below (T18.setTop (mkF m 126 (LS_IIRu p0 (8 : Int32) w_ObjectKind_TYPE) [(.int (1 : Int32))])) _
      refine XS.istoreN X18.here hx rfl (hb hby at_126) rfl (l' := (LS_IIRI p0 (8 : Int32) w_ObjectKind_TYPE (1 : Int32))) rfl ?_
      show Steps p.tables e below (T18.setTop (mkF m 127 (LS_IIRI p0 (8 : Int32) w_ObjectKind_TYPE (1 : Int32)) [])) _
      refine XS.aloadN X18.here hx rfl (hb hby at_127) rfl rfl ?_
      exact k
    obtain ⟨cq19, kq19, q19a, q19b, q19c⟩ := isOf hZ e18 E_ObjectKind_TYPE
    obtain ⟨_, _, ⟨T19, L19, k19, n19⟩, -, X19, ⟨Lc19, hQ19, l19, y19, z19⟩, st19⟩ := X18.virtualBack hx (y := (⟨"com/example/refbound/refbound/catalog/ObjectKind", "isType", "()Z"⟩ : MethodName)) (z := (⟨"com/example/refbound/refbound/catalog/ObjectKind", "isType", "()Z"⟩ : MethodName)) hown (mvT hZ (hw _ (List.mem_of_getElem? (i := 4) rfl))) (mvT hZ (hw _ (List.mem_of_getElem? (i := 5) rfl))) (notFace_of_selects (args := #[]) (mvT hZ (hw _ (List.mem_of_getElem? (i := 7) rfl)))) (mvT hZ (hw _ (List.mem_of_getElem? (i := 7) rfl))) (mvT hZ (hw _ (List.mem_of_getElem? (i := 6) rfl))) (by decide) (backOf (W := 0) (rm1 l Z a0 hw [] w_ObjectKind_TYPE w_ObjectKind_TYPE h0 n0 Z0 S_ObjectKind_TYPE) hZ (hw _ (List.mem_of_getElem? (i := 8) rfl)) (hw _ (List.mem_of_getElem? (i := 2) rfl)) (by decide) (by decide)) q19a q19c (g := (mkF m 128 (LS_IIRI p0 (8 : Int32) w_ObjectKind_TYPE (1 : Int32)) [(.ref w_ObjectKind_TYPE)])) rfl (by rw [hml]; rfl) (Steps.refl _) (argsL := []) (rest := []) (lenOf pd___Z rfl) rfl (by show 2 * 0 + _ ≤ _; exact Nat.le_of_eq rfl) (hb hby at_128) (fun _ _ => ⟨rfl, e18, (by decide : 0 + 0 ≤ _), (by decide : 0 + 0 ≤ _)⟩)
    dsimp only [Pt.U, Pt.locs, Pt.cells, Pt.slots] at X19 l19 y19 z19 st19 hQ19
    subst l19 y19 z19
    obtain ⟨rfl, N19q, e19⟩ := hQ19
    have N19 := Fr.app N0 N19q
    refine own_go (B := T19.setTop (mkF m 131 (LS_IIRI p0 (8 : Int32) w_ObjectKind_TYPE (1 : Int32)) [(.int (if w_ObjectKind_TYPE = w_ObjectKind_TYPE then (1 : Int32) else (0 : Int32)))])) (fun t k => st19.trans k) ?_
    rw [show (if w_ObjectKind_TYPE = w_ObjectKind_TYPE then (1 : Int32) else (0 : Int32)) = (1 : Int32) from if_pos rfl]
    refine own_go (B := T19.setTop (mkF m 140 (LS_IIRI p0 (8 : Int32) w_ObjectKind_TYPE (1 : Int32)) [(.int (1 : Int32))])) (fun t k => ?_) ?_
    · show Steps p.tables e below (T19.setTop (mkF m 131 (LS_IIRI p0 (8 : Int32) w_ObjectKind_TYPE (1 : Int32)) [(.int (1 : Int32))])) _
      refine XS.iloadN X19.here hx rfl (hb hby at_131) rfl ?_
      show Steps p.tables e below (T19.setTop (mkF m 132 (LS_IIRI p0 (8 : Int32) w_ObjectKind_TYPE (1 : Int32)) [(.int (1 : Int32)), (.int (1 : Int32))])) _
      refine XS.icmpNo X19.here hx rfl (hb hby at_132) rfl (teq (by decide : (1 : Int32) = (1 : Int32))).2 ?_
      show Steps p.tables e below (T19.setTop (mkF m 135 (LS_IIRI p0 (8 : Int32) w_ObjectKind_TYPE (1 : Int32)) [])) _
      refine XS.iconst X19.here hx rfl (hb hby at_135) ?_
      show Steps p.tables e below (T19.setTop (mkF m 136 (LS_IIRI p0 (8 : Int32) w_ObjectKind_TYPE (1 : Int32)) [(.int (1 : Int32))])) _
      refine XS.goto X19.here hx rfl (pc0 := 136) (pc' := 140) rfl (hb hby at_136) (by decide) (by decide) ?_
      exact k
    obtain ⟨fs, hr, hrun, hended, hW, hsame⟩ := X19.leave (v := some (.int (1 : Int32))) (fun h => by rw [Bd.returns] at h; cases h)
    refine ⟨_, _, ?_, hrun, hended, _, _, rfl, ?_, ⟨_, rfl⟩, hW, hsame.mono (by decide) (by decide)⟩
    · show Steps p.tables e below (T19.setTop (mkF m 140 (LS_IIRI p0 (8 : Int32) w_ObjectKind_TYPE (1 : Int32)) [(.int (1 : Int32))])) _
      exact retN X19 hx (t := .boolean) Bd.returns (by simp) (hb hby at_140) hr
    · show Q0 Z p0 w_ObjectKind_TABLE w_ObjectKind_TYPE w_ObjectKind_CLR_PROCEDURE w_ObjectKind_PROCEDURE w_ObjectKind_VIEW w_ObjectKind_CLR_TRIGGER w_ObjectKind_FUNCTION w_ObjectKind_TRIGGER w_ObjectKind_CLR_FUNCTION h0 n0 _ T19.heap _
      rw [e19]
      exact ⟨rfl, N19⟩
set_option maxRecDepth 65536 in
set_option maxHeartbeats 40000000 in
theorem comes_1 {Post : Tables → Env → Array Value → State → Outcome → State → Prop} (hpost : ∀ tb e args s v u, (limb_1_1.after args s (.returned v) u = true ∧ limb_1_2.after args s (.returned v) u = true ∧ True) → FrameEnd s (.returned v) u (Jvm.fieldLocs frame_1_writes args s ++ Jvm.arrayLocs frame_1_arrays args s ++ Jvm.staticLocs frame_1_statics s) 0 0 → Post tb e args s (.returned v) u) :
    ArmFor flags0 classFile x code maxLocals ret World_1 tables_1 room_1 Calls_1 rest_1 Pre_1 Post := by
  intro l hfl _ _ p e ha hc hk s m args below hf hA hF happ hP
  obtain ⟨hcalls, hrest, hpre⟩ := hP
  obtain ⟨-, -, -, hnamed, -, -, -, hat⟩ := (Spec.applies_iff hf).mp happ
  obtain ⟨hg, hn⟩ := and_e (Cond.before_iff.mp (show (Jvm.Cond.and given_1 narrow_1).before args s = true from hpre))
  obtain ⟨g1, g2⟩ := and_e hg
  obtain ⟨w0, rfl⟩ : ∃ w0 : Value, args = #[w0] := by
    have hs : args.size = 1 := by simpa [Cond.value, given_1] using g1
    obtain ⟨L⟩ := args
    match L, hs with
    | [w0], _ => exact ⟨w0, rfl⟩
  have hw := fun d (hd : d ∈ tables_1) => atoms_spec (ws := Jvm.Cond.code x code maxLocals ret :: tables_1) hat d (List.mem_cons_of_mem _ hd)
  have hfit : Fit s := fun {y c} hc i hi => by
    obtain ⟨ha, rfl⟩ := Array.getElem?_eq_some_iff.mp hc
    have q := List.all_eq_true.mp ((Array.all_eq_true_iff_forall_mem.mp hF) _ (Array.getElem_mem ha)) i (List.mem_range.mpr hi)
    simpa [Array.getElem?_eq_getElem hi] using q
  obtain ⟨i0, ei0⟩ := is_v g2
  obtain rfl : w0 = (.int i0) := Option.some.inj ei0
  obtain ⟨g3, g4⟩ := and_e hn
  obtain ⟨w_ObjectKind_TABLE, ev_ObjectKind_TABLE⟩ := exa_v g3
  have S_ObjectKind_TABLE : Sta s s.heap "com/example/refbound/refbound/catalog/ObjectKind" "TABLE" "Lcom/example/refbound/refbound/catalog/ObjectKind;" (.ref w_ObjectKind_TABLE) := Sta.start ev_ObjectKind_TABLE (Or.inr ⟨(hw _ (List.mem_of_getElem? (i := 2) rfl)), (hw _ (List.mem_of_getElem? (i := 3) rfl))⟩)
  have E_ObjectKind_TABLE : Exa s s.heap w_ObjectKind_TABLE "com/example/refbound/refbound/catalog/ObjectKind" := Exa.start ev_ObjectKind_TABLE g3
  obtain ⟨g5, g6⟩ := and_e g4
  obtain ⟨w_ObjectKind_TYPE, ev_ObjectKind_TYPE⟩ := exa_v g5
  have S_ObjectKind_TYPE : Sta s s.heap "com/example/refbound/refbound/catalog/ObjectKind" "TYPE" "Lcom/example/refbound/refbound/catalog/ObjectKind;" (.ref w_ObjectKind_TYPE) := Sta.start ev_ObjectKind_TYPE (Or.inr ⟨(hw _ (List.mem_of_getElem? (i := 2) rfl)), (hw _ (List.mem_of_getElem? (i := 10) rfl))⟩)
  have E_ObjectKind_TYPE : Exa s s.heap w_ObjectKind_TYPE "com/example/refbound/refbound/catalog/ObjectKind" := Exa.start ev_ObjectKind_TYPE g5
  obtain ⟨g7, g8⟩ := and_e g6
  obtain ⟨g9, g10⟩ := and_e g8
  obtain ⟨g11, g12⟩ := and_e g10
  obtain ⟨w_ObjectKind_CLR_PROCEDURE, ev_ObjectKind_CLR_PROCEDURE⟩ := exa_v g11
  have S_ObjectKind_CLR_PROCEDURE : Sta s s.heap "com/example/refbound/refbound/catalog/ObjectKind" "CLR_PROCEDURE" "Lcom/example/refbound/refbound/catalog/ObjectKind;" (.ref w_ObjectKind_CLR_PROCEDURE) := Sta.start ev_ObjectKind_CLR_PROCEDURE (Or.inr ⟨(hw _ (List.mem_of_getElem? (i := 2) rfl)), (hw _ (List.mem_of_getElem? (i := 12) rfl))⟩)
  have E_ObjectKind_CLR_PROCEDURE : Exa s s.heap w_ObjectKind_CLR_PROCEDURE "com/example/refbound/refbound/catalog/ObjectKind" := Exa.start ev_ObjectKind_CLR_PROCEDURE g11
  obtain ⟨g13, g14⟩ := and_e g12
  obtain ⟨g15, g16⟩ := and_e g14
  obtain ⟨w_ObjectKind_PROCEDURE, ev_ObjectKind_PROCEDURE⟩ := exa_v g15
  have S_ObjectKind_PROCEDURE : Sta s s.heap "com/example/refbound/refbound/catalog/ObjectKind" "PROCEDURE" "Lcom/example/refbound/refbound/catalog/ObjectKind;" (.ref w_ObjectKind_PROCEDURE) := Sta.start ev_ObjectKind_PROCEDURE (Or.inr ⟨(hw _ (List.mem_of_getElem? (i := 2) rfl)), (hw _ (List.mem_of_getElem? (i := 14) rfl))⟩)
  have E_ObjectKind_PROCEDURE : Exa s s.heap w_ObjectKind_PROCEDURE "com/example/refbound/refbound/catalog/ObjectKind" := Exa.start ev_ObjectKind_PROCEDURE g15
  obtain ⟨g17, g18⟩ := and_e g16
  obtain ⟨g19, g20⟩ := and_e g18
  obtain ⟨w_ObjectKind_VIEW, ev_ObjectKind_VIEW⟩ := exa_v g19
  have S_ObjectKind_VIEW : Sta s s.heap "com/example/refbound/refbound/catalog/ObjectKind" "VIEW" "Lcom/example/refbound/refbound/catalog/ObjectKind;" (.ref w_ObjectKind_VIEW) := Sta.start ev_ObjectKind_VIEW (Or.inr ⟨(hw _ (List.mem_of_getElem? (i := 2) rfl)), (hw _ (List.mem_of_getElem? (i := 16) rfl))⟩)
  have E_ObjectKind_VIEW : Exa s s.heap w_ObjectKind_VIEW "com/example/refbound/refbound/catalog/ObjectKind" := Exa.start ev_ObjectKind_VIEW g19
  obtain ⟨g21, g22⟩ := and_e g20
  obtain ⟨g23, g24⟩ := and_e g22
  obtain ⟨w_ObjectKind_CLR_TRIGGER, ev_ObjectKind_CLR_TRIGGER⟩ := exa_v g23
  have S_ObjectKind_CLR_TRIGGER : Sta s s.heap "com/example/refbound/refbound/catalog/ObjectKind" "CLR_TRIGGER" "Lcom/example/refbound/refbound/catalog/ObjectKind;" (.ref w_ObjectKind_CLR_TRIGGER) := Sta.start ev_ObjectKind_CLR_TRIGGER (Or.inr ⟨(hw _ (List.mem_of_getElem? (i := 2) rfl)), (hw _ (List.mem_of_getElem? (i := 18) rfl))⟩)
  have E_ObjectKind_CLR_TRIGGER : Exa s s.heap w_ObjectKind_CLR_TRIGGER "com/example/refbound/refbound/catalog/ObjectKind" := Exa.start ev_ObjectKind_CLR_TRIGGER g23
  obtain ⟨g25, g26⟩ := and_e g24
  obtain ⟨g27, g28⟩ := and_e g26
  obtain ⟨w_ObjectKind_FUNCTION, ev_ObjectKind_FUNCTION⟩ := exa_v g27
  have S_ObjectKind_FUNCTION : Sta s s.heap "com/example/refbound/refbound/catalog/ObjectKind" "FUNCTION" "Lcom/example/refbound/refbound/catalog/ObjectKind;" (.ref w_ObjectKind_FUNCTION) := Sta.start ev_ObjectKind_FUNCTION (Or.inr ⟨(hw _ (List.mem_of_getElem? (i := 2) rfl)), (hw _ (List.mem_of_getElem? (i := 20) rfl))⟩)
  have E_ObjectKind_FUNCTION : Exa s s.heap w_ObjectKind_FUNCTION "com/example/refbound/refbound/catalog/ObjectKind" := Exa.start ev_ObjectKind_FUNCTION g27
  obtain ⟨g29, g30⟩ := and_e g28
  obtain ⟨g31, g32⟩ := and_e g30
  obtain ⟨w_ObjectKind_TRIGGER, ev_ObjectKind_TRIGGER⟩ := exa_v g31
  have S_ObjectKind_TRIGGER : Sta s s.heap "com/example/refbound/refbound/catalog/ObjectKind" "TRIGGER" "Lcom/example/refbound/refbound/catalog/ObjectKind;" (.ref w_ObjectKind_TRIGGER) := Sta.start ev_ObjectKind_TRIGGER (Or.inr ⟨(hw _ (List.mem_of_getElem? (i := 2) rfl)), (hw _ (List.mem_of_getElem? (i := 23) rfl))⟩)
  have E_ObjectKind_TRIGGER : Exa s s.heap w_ObjectKind_TRIGGER "com/example/refbound/refbound/catalog/ObjectKind" := Exa.start ev_ObjectKind_TRIGGER g31
  obtain ⟨g33, g34⟩ := and_e g32
  obtain ⟨g35, g36⟩ := and_e g34
  obtain ⟨w_ObjectKind_CLR_FUNCTION, ev_ObjectKind_CLR_FUNCTION⟩ := exa_v g35
  have S_ObjectKind_CLR_FUNCTION : Sta s s.heap "com/example/refbound/refbound/catalog/ObjectKind" "CLR_FUNCTION" "Lcom/example/refbound/refbound/catalog/ObjectKind;" (.ref w_ObjectKind_CLR_FUNCTION) := Sta.start ev_ObjectKind_CLR_FUNCTION (Or.inr ⟨(hw _ (List.mem_of_getElem? (i := 2) rfl)), (hw _ (List.mem_of_getElem? (i := 25) rfl))⟩)
  have E_ObjectKind_CLR_FUNCTION : Exa s s.heap w_ObjectKind_CLR_FUNCTION "com/example/refbound/refbound/catalog/ObjectKind" := Exa.start ev_ObjectKind_CLR_FUNCTION g35
  have F_ObjectKind_TABLE_ordinal : Fld s s.heap w_ObjectKind_TABLE "java/lang/Enum" "ordinal" "I" (.int (0 : Int32)) := Fld.start ((fld_at ev_ObjectKind_TABLE).symm.trans (own_eqI g7))
  have F_ObjectKind_TYPE_ordinal : Fld s s.heap w_ObjectKind_TYPE "java/lang/Enum" "ordinal" "I" (.int (8 : Int32)) := Fld.start ((fld_at ev_ObjectKind_TYPE).symm.trans (own_eqI g9))
  have F_ObjectKind_CLR_PROCEDURE_ordinal : Fld s s.heap w_ObjectKind_CLR_PROCEDURE "java/lang/Enum" "ordinal" "I" (.int (3 : Int32)) := Fld.start ((fld_at ev_ObjectKind_CLR_PROCEDURE).symm.trans (own_eqI g13))
  have F_ObjectKind_PROCEDURE_ordinal : Fld s s.heap w_ObjectKind_PROCEDURE "java/lang/Enum" "ordinal" "I" (.int (2 : Int32)) := Fld.start ((fld_at ev_ObjectKind_PROCEDURE).symm.trans (own_eqI g17))
  have F_ObjectKind_VIEW_ordinal : Fld s s.heap w_ObjectKind_VIEW "java/lang/Enum" "ordinal" "I" (.int (1 : Int32)) := Fld.start ((fld_at ev_ObjectKind_VIEW).symm.trans (own_eqI g21))
  have F_ObjectKind_CLR_TRIGGER_ordinal : Fld s s.heap w_ObjectKind_CLR_TRIGGER "java/lang/Enum" "ordinal" "I" (.int (7 : Int32)) := Fld.start ((fld_at ev_ObjectKind_CLR_TRIGGER).symm.trans (own_eqI g25))
  have F_ObjectKind_FUNCTION_ordinal : Fld s s.heap w_ObjectKind_FUNCTION "java/lang/Enum" "ordinal" "I" (.int (4 : Int32)) := Fld.start ((fld_at ev_ObjectKind_FUNCTION).symm.trans (own_eqI g29))
  have F_ObjectKind_TRIGGER_ordinal : Fld s s.heap w_ObjectKind_TRIGGER "java/lang/Enum" "ordinal" "I" (.int (6 : Int32)) := Fld.start ((fld_at ev_ObjectKind_TRIGGER).symm.trans (own_eqI g33))
  have F_ObjectKind_CLR_FUNCTION_ordinal : Fld s s.heap w_ObjectKind_CLR_FUNCTION "java/lang/Enum" "ordinal" "I" (.int (5 : Int32)) := Fld.start ((fld_at ev_ObjectKind_CLR_FUNCTION).symm.trans (own_eqI g36))
  obtain ⟨n, o, h1, h2, h3, _, L, rfl, ⟨rfl, N⟩, hq⟩ := rm0 l s _ hw tables_1 i0 w_ObjectKind_TABLE w_ObjectKind_TYPE w_ObjectKind_CLR_PROCEDURE w_ObjectKind_PROCEDURE w_ObjectKind_VIEW w_ObjectKind_CLR_TRIGGER w_ObjectKind_FUNCTION w_ObjectKind_TRIGGER w_ObjectKind_CLR_FUNCTION s.heap s.heap.size (Nat.le_refl _) S_ObjectKind_TABLE E_ObjectKind_TABLE S_ObjectKind_TYPE E_ObjectKind_TYPE S_ObjectKind_CLR_PROCEDURE E_ObjectKind_CLR_PROCEDURE S_ObjectKind_PROCEDURE E_ObjectKind_PROCEDURE S_ObjectKind_VIEW E_ObjectKind_VIEW S_ObjectKind_CLR_TRIGGER E_ObjectKind_CLR_TRIGGER S_ObjectKind_FUNCTION E_ObjectKind_FUNCTION S_ObjectKind_TRIGGER E_ObjectKind_TRIGGER S_ObjectKind_CLR_FUNCTION E_ObjectKind_CLR_FUNCTION F_ObjectKind_TABLE_ordinal F_ObjectKind_TYPE_ordinal F_ObjectKind_CLR_PROCEDURE_ordinal F_ObjectKind_PROCEDURE_ordinal F_ObjectKind_VIEW_ordinal F_ObjectKind_CLR_TRIGGER_ordinal F_ObjectKind_FUNCTION_ordinal F_ObjectKind_TRIGGER_ordinal F_ObjectKind_CLR_FUNCTION_ordinal p e ha hc hk s m _ below hf ((Spec.applies_iff_loose hf).mp happ).1 ⟨rfl, State.Warmed39.refl s, rfl⟩ trivial
  refine ⟨n, _, h1, h2, h3, hpost _ _ _ _ _ _ ⟨Cond.after_iff.mpr rfl, Cond.after_iff.mpr (eq_i res_at (Term.int_eval (1)) rfl), trivial⟩ ⟨hq.1, hq.2.1, (hq.2.2.sift fun y hy => Or.inr (N y hy)).mono (by decide) (by decide)⟩⟩
theorem main_1_1 : Claimed_1_1 := comes_1 fun _ _ _ _ _ _ h hF => ⟨h.1, hF⟩
theorem main_1_2 : Claimed_1_2 := comes_1 fun _ _ _ _ _ _ h hF => ⟨h.2.1, hF⟩
end Jvm.Pilot.@@N@@
namespace Jvm.Pilot.@@N@@
open Jvm Jvm.ClassFile Sem Op Lib Jvm.Free Jvm.Stand Jvm.Pilot.@@N@@.Jvm.D
/-! MADE BY PROGRAM (witnessworld.py) out of the Statement's table words and the real class files: 12 classes; the members and pool entries that the words name. The judged class is class 1, her method 1. -/
namespace start1
open Jvm.ClassFile
def u (s : String) : CpInfo := .utf8 (stringToUtf16 s)
/-- a pool by its gaps: so many unusable entries, then the entry; so many at the end -/
def gap : Nat → List CpInfo → List CpInfo
  | 0, r => r
  | n + 1, r => .unusable :: gap n r
def poolList (es : List (Nat × CpInfo)) (last : Nat) : List CpInfo := es.foldr (fun e r => gap e.1 (e.2 :: r)) (gap last [])
def pool (es : List (Nat × CpInfo)) (last : Nat) : Array CpInfo := ⟨poolList es last⟩
def fileOf (pool : Array CpInfo) (this : Nat) (attrs : Array Attribute := #[]) (ms : Array MethodInfo := #[]) (fl : Nat := 33) (sup : Nat := 0) (ifs : Array Nat := #[]) (fds : Array FieldInfo := #[]) : ClassFile where
  minorVersion := 0
  majorVersion := 65
  constantPool := pool
  accessFlags := fl
  thisClass := this
  superClass := sup
  interfaces := ifs
  fields := fds
  methods := ms
  attributes := attrs
def plain (name : String) (sup : Option ClassId) : Class where
  name := name
  kind := .ordinary
  loader := none
  accessFlags := 33
  super := sup
  interfaces := #[]
  cf := none
  fields := #[]
  methods := #[]
  instanceTypes := #[]
  staticTypes := #[]
  resolved := #[]
  callSites := []
  init := .initialized
  statics := none
  mirror := none

def pool0 : Array CpInfo := pool [(5, u "<init>"), (0, u "()V"), (1, .class_ 10), (1, u "java/lang/Object")] 113

def k0m0 : Method := { name := "<init>", desc := "()V", sig := { parameters := [], returnType := none }, accessFlags := 1, code := none }
/-- java/lang/Object -/
def k0 : Class := { plain "java/lang/Object" none with
  accessFlags := 33
  interfaces := #[]
  cf := some (fileOf pool0 8 #[] #[{ accessFlags := 1, nameIndex := 5, descriptorIndex := 6, attributes := #[] }] 33 0 #[] #[])
  fields := #[]
  methods := #[k0m0]
  instanceTypes := #[]
  staticTypes := #[]
  resolved := Array.replicate 124 none
  statics := none }

def pool1 : Array CpInfo := pool [(2, .class_ 4), (1, u "java/lang/Object"), (0, u "<init>"), (0, u "()V"), (0, .integer 2147483647), (0, .fieldref 9 10), (0, .class_ 11), (0, .nameAndType 12 13), (0, u "com/example/refbound/refbound/catalog/ObjectKind"), (0, u "TABLE"), (0, u "Lcom/example/refbound/refbound/catalog/ObjectKind;"), (0, .fieldref 9 15), (0, .nameAndType 16 13), (0, u "VIEW"), (0, .fieldref 9 18), (0, .nameAndType 19 13), (0, u "PROCEDURE"), (0, .fieldref 9 21), (0, .nameAndType 22 13), (0, u "CLR_PROCEDURE"), (0, .fieldref 9 24), (0, .nameAndType 25 13), (0, u "FUNCTION"), (0, .fieldref 9 27), (0, .nameAndType 28 13), (0, u "CLR_FUNCTION"), (0, .fieldref 9 30), (0, .nameAndType 31 13), (0, u "TRIGGER"), (0, .fieldref 9 33), (0, .nameAndType 34 13), (0, u "CLR_TRIGGER"), (0, .fieldref 9 36), (0, .nameAndType 37 13), (0, u "TYPE"), (0, .methodref 9 39), (0, .nameAndType 40 41), (0, u "isType"), (0, u "()Z"), (0, .class_ 43), (0, u "com/example/refbound/refbound/catalog/ObjectKindIsTypePinLaw"), (2, u "law"), (0, u "(I)Z")] 3

def k1m0 : Method := { name := "<init>", desc := "()V", sig := { parameters := [], returnType := none }, accessFlags := 2, code := none }
def k1c1 : Code := { maxStack := 2, maxLocals := 4, code := code, exceptionTable := #[], attributes := #[] }
def k1m1 : Method := { name := "law", desc := "(I)Z", sig := { parameters := [.int], returnType := some .boolean }, accessFlags := 9, code := some k1c1 }
/-- com/example/refbound/refbound/catalog/ObjectKindIsTypePinLaw -/
def k1 : Class := { plain "com/example/refbound/refbound/catalog/ObjectKindIsTypePinLaw" (some 0) with
  accessFlags := 49
  interfaces := #[]
  cf := some (fileOf pool1 42 #[] #[{ accessFlags := 2, nameIndex := 5, descriptorIndex := 6, attributes := #[] }, { accessFlags := 9, nameIndex := 46, descriptorIndex := 47, attributes := #[] }] 49 2 #[] #[])
  fields := #[]
  methods := #[k1m0, k1m1]
  instanceTypes := #[]
  staticTypes := #[]
  resolved := Array.replicate 51 none
  statics := none }

def pool2 : Array CpInfo := pool [(1, .class_ 2), (0, u "java/lang/constant/Constable"), (0, .class_ 4), (0, u "java/lang/Object")] 6

/-- java/lang/constant/Constable -/
def k2 : Class := { plain "java/lang/constant/Constable" (some 0) with
  accessFlags := 1537
  interfaces := #[]
  cf := some (fileOf pool2 1 #[] #[] 1537 3 #[] #[])
  fields := #[]
  methods := #[]
  instanceTypes := #[]
  staticTypes := #[]
  resolved := Array.replicate 11 none
  statics := none }

def pool3 : Array CpInfo := pool [(1, .class_ 2), (0, u "java/lang/Comparable"), (0, .class_ 4), (0, u "java/lang/Object")] 7

/-- java/lang/Comparable -/
def k3 : Class := { plain "java/lang/Comparable" (some 0) with
  accessFlags := 1537
  interfaces := #[]
  cf := some (fileOf pool3 1 #[] #[] 1537 3 #[] #[])
  fields := #[]
  methods := #[]
  instanceTypes := #[]
  staticTypes := #[]
  resolved := Array.replicate 12 none
  statics := none }

def pool4 : Array CpInfo := pool [(1, .class_ 2), (0, u "java/io/Serializable"), (0, .class_ 4), (0, u "java/lang/Object")] 2

/-- java/io/Serializable -/
def k4 : Class := { plain "java/io/Serializable" (some 0) with
  accessFlags := 1537
  interfaces := #[]
  cf := some (fileOf pool4 1 #[] #[] 1537 3 #[] #[])
  fields := #[]
  methods := #[]
  instanceTypes := #[]
  staticTypes := #[]
  resolved := Array.replicate 7 none
  statics := none }

def pool5 : Array CpInfo := pool [(2, .class_ 4), (1, u "java/lang/Enum"), (0, u "name"), (0, u "Ljava/lang/String;"), (2, u "ordinal"), (0, u "I"), (1, .class_ 14), (1, u "java/lang/Object"), (4, u "hash"), (86, .class_ 108), (1, u "java/lang/Enum$EnumDesc"), (2, .class_ 112), (0, u "java/lang/constant/Constable"), (0, .class_ 114), (0, u "java/lang/Comparable"), (0, .class_ 116), (0, u "java/io/Serializable")] 87

/-- java/lang/Enum -/
def k5 : Class := { plain "java/lang/Enum" (some 0) with
  accessFlags := 1057
  interfaces := #[2, 3, 4]
  cf := some (fileOf pool5 2 #[.nestMembers #[106]] #[] 1057 12 #[111, 113, 115] #[{ accessFlags := 18, nameIndex := 5, descriptorIndex := 6, attributes := #[] }, { accessFlags := 18, nameIndex := 9, descriptorIndex := 10, attributes := #[] }, { accessFlags := 2, nameIndex := 19, descriptorIndex := 10, attributes := #[] }])
  fields := #[{ name := "name", type := (.object "java/lang/String"), accessFlags := 18, slot := 0, constantValue := 0 }, { name := "ordinal", type := .int, accessFlags := 18, slot := 1, constantValue := 0 }, { name := "hash", type := .int, accessFlags := 2, slot := 2, constantValue := 0 }]
  methods := #[]
  instanceTypes := #[(.object "java/lang/String"), .int, .int]
  staticTypes := #[]
  resolved := Array.replicate 204 none
  statics := none }

def pool6 : Array CpInfo := pool [(1, .class_ 2), (0, u "com/example/refbound/refbound/catalog/ObjectKind"), (2, u "TABLE"), (0, u "Lcom/example/refbound/refbound/catalog/ObjectKind;"), (2, u "VIEW"), (2, u "PROCEDURE"), (2, u "CLR_PROCEDURE"), (2, u "FUNCTION"), (2, u "CLR_FUNCTION"), (2, u "TRIGGER"), (2, u "CLR_TRIGGER"), (0, .fieldref 1 29), (0, .nameAndType 30 6), (0, u "TYPE"), (2, u "$VALUES"), (0, u "[Lcom/example/refbound/refbound/catalog/ObjectKind;"), (6, .class_ 43), (1, u "java/lang/Enum"), (27, u "isType"), (0, u "()Z")] 5

def k6c0 : Code := { maxStack := 2, maxLocals := 1, code := prog_16_method_4_code, exceptionTable := #[], attributes := #[] }
def k6m0 : Method := { name := "isType", desc := "()Z", sig := { parameters := [], returnType := some .boolean }, accessFlags := 0, code := some k6c0 }
/-- com/example/refbound/refbound/catalog/ObjectKind -/
def k6 : Class := { plain "com/example/refbound/refbound/catalog/ObjectKind" (some 5) with
  accessFlags := 16433
  interfaces := #[]
  cf := some (fileOf pool6 1 #[] #[{ accessFlags := 0, nameIndex := 71, descriptorIndex := 72, attributes := #[] }] 16433 41 #[] #[{ accessFlags := 16409, nameIndex := 5, descriptorIndex := 6, attributes := #[] }, { accessFlags := 16409, nameIndex := 9, descriptorIndex := 6, attributes := #[] }, { accessFlags := 16409, nameIndex := 12, descriptorIndex := 6, attributes := #[] }, { accessFlags := 16409, nameIndex := 15, descriptorIndex := 6, attributes := #[] }, { accessFlags := 16409, nameIndex := 18, descriptorIndex := 6, attributes := #[] }, { accessFlags := 16409, nameIndex := 21, descriptorIndex := 6, attributes := #[] }, { accessFlags := 16409, nameIndex := 24, descriptorIndex := 6, attributes := #[] }, { accessFlags := 16409, nameIndex := 27, descriptorIndex := 6, attributes := #[] }, { accessFlags := 16409, nameIndex := 30, descriptorIndex := 6, attributes := #[] }, { accessFlags := 4122, nameIndex := 33, descriptorIndex := 34, attributes := #[] }])
  fields := #[{ name := "TABLE", type := (.object "com/example/refbound/refbound/catalog/ObjectKind"), accessFlags := 16409, slot := 0, constantValue := 0 }, { name := "VIEW", type := (.object "com/example/refbound/refbound/catalog/ObjectKind"), accessFlags := 16409, slot := 1, constantValue := 0 }, { name := "PROCEDURE", type := (.object "com/example/refbound/refbound/catalog/ObjectKind"), accessFlags := 16409, slot := 2, constantValue := 0 }, { name := "CLR_PROCEDURE", type := (.object "com/example/refbound/refbound/catalog/ObjectKind"), accessFlags := 16409, slot := 3, constantValue := 0 }, { name := "FUNCTION", type := (.object "com/example/refbound/refbound/catalog/ObjectKind"), accessFlags := 16409, slot := 4, constantValue := 0 }, { name := "CLR_FUNCTION", type := (.object "com/example/refbound/refbound/catalog/ObjectKind"), accessFlags := 16409, slot := 5, constantValue := 0 }, { name := "TRIGGER", type := (.object "com/example/refbound/refbound/catalog/ObjectKind"), accessFlags := 16409, slot := 6, constantValue := 0 }, { name := "CLR_TRIGGER", type := (.object "com/example/refbound/refbound/catalog/ObjectKind"), accessFlags := 16409, slot := 7, constantValue := 0 }, { name := "TYPE", type := (.object "com/example/refbound/refbound/catalog/ObjectKind"), accessFlags := 16409, slot := 8, constantValue := 0 }, { name := "$VALUES", type := (.array (.object "com/example/refbound/refbound/catalog/ObjectKind")), accessFlags := 4122, slot := 9, constantValue := 0 }]
  methods := #[k6m0]
  instanceTypes := #[(.object "java/lang/String"), .int, .int]
  staticTypes := #[(.object "com/example/refbound/refbound/catalog/ObjectKind"), (.object "com/example/refbound/refbound/catalog/ObjectKind"), (.object "com/example/refbound/refbound/catalog/ObjectKind"), (.object "com/example/refbound/refbound/catalog/ObjectKind"), (.object "com/example/refbound/refbound/catalog/ObjectKind"), (.object "com/example/refbound/refbound/catalog/ObjectKind"), (.object "com/example/refbound/refbound/catalog/ObjectKind"), (.object "com/example/refbound/refbound/catalog/ObjectKind"), (.object "com/example/refbound/refbound/catalog/ObjectKind"), (.array (.object "com/example/refbound/refbound/catalog/ObjectKind"))]
  resolved := Array.replicate 78 none
  statics := some 0 }

def pool7 : Array CpInfo := pool [(1, u "java/lang/Cloneable"), (0, .class_ 1), (0, u "java/lang/Object"), (0, .class_ 3)] 3

/-- java/lang/Cloneable -/
def k7 : Class := { plain "java/lang/Cloneable" (some 0) with
  accessFlags := 1537
  interfaces := #[]
  cf := some (fileOf pool7 2 #[] #[] 1537 4 #[] #[])
  fields := #[]
  methods := #[]
  instanceTypes := #[]
  staticTypes := #[]
  resolved := Array.replicate 8 none
  statics := none }

/-- the primitive byte -/
def k8 : Class := { plain "byte" none with kind := .primitive 'B', accessFlags := 0x411 }
/-- [B -/
def k9 : Class := { plain "[B" (some 0) with kind := .array 8 .byte, interfaces := #[7, 4], accessFlags := 1041 }

/-- the primitive int -/
def k10 : Class := { plain "int" none with kind := .primitive 'I', accessFlags := 0x411 }
/-- [I -/
def k11 : Class := { plain "[I" (some 0) with kind := .array 10 .int, interfaces := #[7, 4], accessFlags := 1041 }

def heap : Heap := #[{ cls := 6, slots := #[.ref 1, .ref 5, .ref 4, .ref 3, .ref 7, .ref 9, .ref 8, .ref 6, .ref 2, .null], vm := .statics 6 },
  { cls := 6, slots := #[.null, .int 0, .int 0], vm := .none },
  { cls := 6, slots := #[.null, .int 8, .int 0], vm := .none },
  { cls := 6, slots := #[.null, .int 3, .int 0], vm := .none },
  { cls := 6, slots := #[.null, .int 2, .int 0], vm := .none },
  { cls := 6, slots := #[.null, .int 1, .int 0], vm := .none },
  { cls := 6, slots := #[.null, .int 7, .int 0], vm := .none },
  { cls := 6, slots := #[.null, .int 4, .int 0], vm := .none },
  { cls := 6, slots := #[.null, .int 6, .int 0], vm := .none },
  { cls := 6, slots := #[.null, .int 5, .int 0], vm := .none }]
def classes : Array Class := #[k0, k1, k2, k3, k4, k5, k6, k7, k8, k9, k10, k11]
def interned : List (Array UInt16 × Addr) := []
def slotsUsed : Nat := 37
def theMethod : MethodId := ⟨1, 1⟩
def args0 : Array Value := #[.int 5]
def aboutOver (below : List Frame) : State where
  vm := { classes := classes, interned := interned.toArray }
  heap := heap
  slotsUsed := slotsUsed
  threads := #[{ frames := .invoking theMethod args0 :: below }]
def below0 : List Frame := [.native { method := ⟨0, 0⟩, args := #[] }]
def about1 : State := aboutOver below0
def p0 : Program := .bare "" "" ""
def e0 : Env := launch0.env 0 0 0
theorem w_frames : about1.frames = Frame.invoking theMethod args0 :: below0 := rfl
set_option maxRecDepth 65536 in
theorem w_args : argsFit about1.vm theMethod args0 = true := by decide +kernel
set_option maxRecDepth 65536 in
theorem w_heap : heapFits about1 = true := by decide +kernel
set_option maxRecDepth 65536 in
theorem w_runnable : about1.curStatus? = some .runnable := by decide +kernel
set_option maxRecDepth 65536 in
theorem w_alone : about1.alone = true := by decide +kernel
set_option maxRecDepth 65536 in
theorem w_named : about1.methodNamed? x = some theMethod := by decide +kernel
set_option maxRecDepth 65536 in
theorem w_hears : about1.hears theMethod below0 = true := by decide +kernel
set_option maxRecDepth 65536 in
theorem w_ripe : about1.ripe theMethod args0 below0 = true := by decide +kernel
theorem w_running : about1.status = .running := rfl
set_option maxRecDepth 65536 in
theorem w_room : about1.hasRoom e0.platform room_1 = true :=
  launch0.hasRoom_least _ room_1 (by decide +kernel) (by decide +kernel) (by decide +kernel) (by decide +kernel) (by decide +kernel) (by decide +kernel)
theorem allAtoms_all (ts : List Jvm.Cond) (a : Array Jvm.Value) (st : Jvm.State) : (allAtoms ts).before a st = ts.all (fun c => c.before a st) := by
  induction ts with
  | nil => rfl
  | cons c t ih =>
    show (Jvm.Cond.and c (allAtoms t)).before a st = _
    rw [Jvm.Cond.before_and, ih, List.all_cons]
def words1 : List Jvm.Cond := Jvm.Cond.code x code maxLocals ret :: tables_1
/-- a 'code' word, met by the world's own term for the bytes: nothing is compared byte by byte -/
theorem code_word {y : MethodName} {bytes : ByteArray} {mx : Nat} {rt : Option FieldType} {a : Array Value} {s : State} {m : MethodId} {meth : Method} {c : Code} (h1 : s.methodNamed? y = some m) (h2 : s.vm.method? m = some meth) (h3 : meth.code = some c) (h4 : c.code = bytes)
    (h5 : (c.maxLocals == mx && c.exceptionTable.isEmpty && decide (c.maxStack ≤ mostOperands) && decide (meth.sig.returnType = rt) && !meth.locks && decide (parseMethodDescriptor y.desc = some meth.sig)) = true) : (Jvm.Cond.code y bytes mx rt).before a s = true := by
  simp only [Bool.and_eq_true, beq_iff_eq, Bool.not_eq_true', decide_eq_true_eq] at h5
  obtain ⟨⟨⟨⟨⟨g1, g2⟩, g3⟩, g4⟩, g5⟩, g6⟩ := h5
  simp [Cond.before, Cond.holds, Cond.value, h1, h2, h3, h4, g1, g2, g3, g4, g5, g6]
def isCode : Jvm.Cond → Bool
  | .code _ _ _ _ => true
  | _ => false
theorem all_split {L : List Jvm.Cond} {P : Jvm.Cond → Bool} (h1 : L.all (fun c => isCode c || P c) = true) (h2 : ∀ c ∈ L.filter isCode, P c = true) : L.all P = true := by
  refine List.all_eq_true.mpr fun c hc => ?_
  have h := List.all_eq_true.mp h1 c hc
  rcases Bool.eq_false_or_eq_true (isCode c) with hi | hi
  · exact h2 c (List.mem_filter.mpr ⟨hc, hi⟩)
  · simpa [hi] using h
set_option maxRecDepth 65536 in
theorem w_c0 : (Jvm.Cond.code x code maxLocals ret).before args0 about1 = true := code_word (m := ⟨1, 1⟩) (meth := k1m1) (c := k1c1) (by decide +kernel) rfl rfl rfl (by decide +kernel)
set_option maxRecDepth 65536 in
theorem w_c1 : (Jvm.Cond.code ({ cls := "com/example/refbound/refbound/catalog/ObjectKind", name := "isType", desc := "()Z" } : Jvm.MethodName) prog_16_method_4_code (1 : Nat) (Option.some Jvm.ClassFile.FieldType.boolean)).before args0 about1 = true := code_word (m := ⟨6, 0⟩) (meth := k6m0) (c := k6c0) (by decide +kernel) rfl rfl rfl (by decide +kernel)
def codes1 : List Jvm.Cond := [Jvm.Cond.code x code maxLocals ret, Jvm.Cond.code ({ cls := "com/example/refbound/refbound/catalog/ObjectKind", name := "isType", desc := "()Z" } : Jvm.MethodName) prog_16_method_4_code (1 : Nat) (Option.some Jvm.ClassFile.FieldType.boolean)]
set_option maxRecDepth 65536 in
theorem codes_eq : words1.filter isCode = codes1 := rfl
theorem w_codes : ∀ c ∈ words1.filter isCode, c.before args0 about1 = true := by
  rw [codes_eq]
  intro c hc
  simp only [codes1, List.mem_cons, List.not_mem_nil, or_false] at hc
  rcases hc with rfl | rfl
  · exact w_c0
  · exact w_c1
set_option maxRecDepth 65536 in
theorem w_t1 : (words1.take 24).all (fun c => isCode c || c.before args0 about1) = true := by decide +kernel
set_option maxRecDepth 65536 in
theorem w_t2 : (words1.drop 24).all (fun c => isCode c || c.before args0 about1) = true := by decide +kernel
theorem w_tables : (allAtoms (Jvm.Cond.code x code maxLocals ret :: tables_1)).before args0 about1 = true := by
  rw [allAtoms_all]
  show words1.all (fun c => c.before args0 about1) = true
  refine all_split ?_ w_codes
  rw [← List.take_append_drop 24 words1, List.all_append, w_t1, w_t2]
  rfl
set_option maxRecDepth 65536 in
theorem w_case : (Jvm.Cond.and given_1 narrow_1).before args0 about1 = true := by decide +kernel
theorem w_applies : (headSpec (Jvm.Cond.code x code maxLocals ret :: tables_1) room_1).applies x e0.platform about1 = true :=
  (Spec.applies_iff w_frames).mpr ⟨w_running, w_runnable, w_alone, w_named, w_hears, w_ripe, w_room, w_tables⟩
theorem atStart : AtStart classFile x code maxLocals ret World_1 tables_1 room_1 Calls_1 rest_1 Pre_1 launch0 p0 e0 about1 theMethod args0 below0 :=
  ⟨lists_1, trivial, launch0.admits_env _ _ _, launch0.least_env, fairChoices_fair.cas, fairChoices_fair.clock, w_frames, w_args, w_heap, w_applies, trivial, trivial, w_case⟩
end start1
theorem witness_1 : WitnessClaimed_1 := ⟨start1.p0, start1.e0, start1.about1, start1.theMethod, start1.args0, start1.below0, start1.atStart⟩
end Jvm.Pilot.@@N@@
