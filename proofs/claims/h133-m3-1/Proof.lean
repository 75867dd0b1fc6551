import JvmDerived
import JvmDerived.Pilot.@@N@@Statement
import JvmDerived.Pilot.@@N@@Code
set_option linter.unusedVariables false
set_option linter.unusedSimpArgs false
@@BLOCK:NumsL.lean.txt@@
@@BLOCK:TracedD.lean.txt@@
namespace Jvm.Pilot.@@N@@
open Jvm Jvm.ClassFile Sem Op Lib Jvm.Free Jvm.Stand Jvm.LawKit Jvm.RoadKit Bundle Jvm.Pilot.@@N@@.Jvm.D
/-- two roads that come together: the rest is shown once, for every state and value with which they come -/
theorem own_join {p : Program} {l : Launch} {e : Env} {R : Room} {s : State} {m : MethodId} {args : Array Value} {below : List Frame} {meth : Method} {c : Code} {T : State} {locs : List Loc} {cells slots n0 : Nat} {A : State} {P : State → Outcome → Prop}
    (X : Stand p l e R s m args below meth c T locs cells slots) (N : Fr n0 locs) {ι : Type} (Φ : ι → State → Prop) (B : ι → JFrame)
    (rest : ∀ i T' locs', Stand p l e R s m args below meth c T' locs' cells slots → Fr n0 locs' → Φ i T' → ∃ s₂ o, Steps p.tables e below (T'.setTop (B i)) s₂ ∧ P s₂ o)
    (come : (∀ i T' locs', Stand p l e R s m args below meth c T' locs' cells slots → Fr n0 locs' → Φ i T' → ∃ s₂ o, Steps p.tables e below (T'.setTop (B i)) s₂ ∧ P s₂ o) → ∃ s₂ o, Steps p.tables e below A s₂ ∧ P s₂ o) : ∃ s₂ o, Steps p.tables e below A s₂ ∧ P s₂ o := come rest
theorem own_joinH {p : Program} {l : Launch} {e : Env} {R : Room} {s : State} {m : MethodId} {args : Array Value} {below : List Frame} {meth : Method} {c : Code} {T : State} {locs : List Loc} {cells slots n0 : Nat} {A : State} {P : State → Outcome → Prop}
    (X : Stand p l e R s m args below meth c T locs cells slots) (N : Fr n0 locs) {ι : Type} (cells' slots' : Nat) (Φ : ι → Heap → Prop) (B : ι → JFrame)
    (rest : ∀ i T' locs', Stand p l e R s m args below meth c T' locs' cells' slots' → Fr n0 locs' → Φ i T'.heap → ∃ s₂ o, Steps p.tables e below (T'.setTop (B i)) s₂ ∧ P s₂ o)
    (come : (∀ i T' locs', Stand p l e R s m args below meth c T' locs' cells' slots' → Fr n0 locs' → Φ i T'.heap → ∃ s₂ o, Steps p.tables e below (T'.setTop (B i)) s₂ ∧ P s₂ o) → ∃ s₂ o, Steps p.tables e below A s₂ ∧ P s₂ o) : ∃ s₂ o, Steps p.tables e below A s₂ ∧ P s₂ o := come rest
theorem own_mono {p : Program} {l : Launch} {e : Env} {R : Room} {s : State} {m : MethodId} {args : Array Value} {below : List Frame} {meth : Method} {c : Code} {T : State} {locs : List Loc} {cells slots cells' slots' : Nat}
    (X : Stand p l e R s m args below meth c T locs cells slots) (h1 : cells ≤ cells') (h2 : slots ≤ slots') : Stand p l e R s m args below meth c T locs cells' slots' := { X with same := X.same.mono h1 h2 }
theorem own_sta_keep {Z : State} {h h' : Heap} {C n d : String} {v : Value} {ws : List Addr} (F : Sta Z h C n d v) (K : Keep h h' ws) (q : ∀ x ∈ ws, ∀ c : Cell, h[x]? = some c → c.vm.isStatics = false) : Sta Z h' C n d v := by
  obtain ⟨cf, i, k, f, st, cell, h1, h2, h3, h4, h5, h6, h7⟩ := F
  refine ⟨cf, i, k, f, st, cell, h1, h2, h3, h4, K.2.1 st cell h5 fun hm => ?_, h6, h7⟩
  rw [q st hm cell h5] at h6
  cases h6
theorem own_arr_keep {Z : State} {h h' : Heap} {a : Addr} {c : Cell} {ty : FieldType} {ws : List Addr} (F : Arr Z h a c ty) (K : Keep h h' ws) (q : a ∉ ws) : Arr Z h' a c ty := ⟨K.2.1 _ _ F.1 q, F.2⟩
theorem own_plain_E {Z : State} {h : Heap} {a : Addr} {C : String} (F : Exa Z h a C) : ∀ c : Cell, h[a]? = some c → c.vm.isStatics = false := by
  obtain ⟨cell, k, h1, h2, h3, h4, h5⟩ := F
  intro c hc
  cases h1.symm.trans hc
  exact h4
theorem own_plain_V {Z : State} {h : Heap} {a : Addr} {k : ClassId} {ty : FieldType} {n : Int32} {vs : List Value} {d : Value} (F : Arv Z h a k ty n vs d) : ∀ c : Cell, h[a]? = some c → c.vm.isStatics = false := by
  obtain ⟨cell, A, -⟩ := F
  intro c hc
  cases A.1.symm.trans hc
  exact A.plain
/-- a stretch of the road, then the rest -/
theorem own_go {tb : Tables} {e : Env} {below : List Frame} {A B : State} {P : State → Outcome → Prop} (h : ∀ t, Steps tb e below B t → Steps tb e below A t) (k : ∃ s₂ o, Steps tb e below B s₂ ∧ P s₂ o) : ∃ s₂ o, Steps tb e below A s₂ ∧ P s₂ o := by
  obtain ⟨s₂, o, h1, h2⟩ := k
  exact ⟨s₂, o, h s₂ h1, h2⟩
theorem own_eqI {args : Array Value} {first s : State} {o : Option Outcome} {idx : List Nat} {t : Term} {k : Int32} (h : (Jvm.Cond.eq t (.int k)).value args first o s idx = some true) : t.eval args first o idx s = some (.int k) := by
  simp only [Jvm.Cond.value, Term.eval] at h
  cases ht : t.eval args first o idx s with
  | none => simp [ht] at h
  | some x => cases x <;> simp [ht] at h ⊢; exact h
theorem own_eqJ {args : Array Value} {first s : State} {o : Option Outcome} {idx : List Nat} {t : Term} {k : Int64} (h : (Jvm.Cond.eq t (.long k)).value args first o s idx = some true) : t.eval args first o idx s = some (.long k) := by
  simp only [Jvm.Cond.value, Term.eval] at h
  cases ht : t.eval args first o idx s with
  | none => simp [ht] at h
  | some x => cases x <;> simp [ht] at h ⊢; exact h
theorem own_eqR {args : Array Value} {first s : State} {o : Option Outcome} {idx : List Nat} {t u : Term} {a : Addr} (h : (Jvm.Cond.eq t u).value args first o s idx = some true) (hu : u.eval args first o idx s = some (.ref a)) : t.eval args first o idx s = some (.ref a) := by
  simp only [Jvm.Cond.value] at h
  cases ht : t.eval args first o idx s with
  | none => simp [ht] at h
  | some x => cases x <;> simp [ht, hu] at h ⊢; exact h
abbrev own_api : String := "com/example/weighted_scheduler/weightedscheduler/ApiError"
abbrev own_ob : String := "Ljava/lang/Object;"
/-- every place in the list is a place of a -/
def own_on (a : Addr) (L : List Loc) : Prop := ∀ y ∈ L, y.base = a
theorem own_on_nil (a : Addr) : own_on a [] := fun _ h => absurd h (List.not_mem_nil)
theorem own_on_snoc {p : Program} {l : Launch} {e : Env} {R : Room} {s : State} {m : MethodId} {args : Array Value} {below : List Frame} {meth : Method} {c : Code} {T : State} {locs : List Loc} {cells slots : Nat} {a : Addr} {i : Nat}
    (X : Stand p l e R s m args below meth c T (locs ++ [⟨a, i⟩]) cells slots) (h : own_on a locs) : own_on a (locs ++ [⟨a, i⟩]) := fun y hy => by
  rcases List.mem_append.mp hy with q | q
  · exact h y q
  · cases List.mem_singleton.mp q; rfl
theorem own_on_app {a : Addr} {L L' : List Loc} (h : own_on a L) (h' : own_on a L') : own_on a (L ++ L') := fun y hy => (List.mem_append.mp hy).elim (h y) (h' y)
theorem own_on_fr {a : Addr} {n : Nat} {L : List Loc} (h : own_on a L) (q : n ≤ a) : Fr n L := fun y hy => by rw [h y hy]; exact q
theorem own_on_keep {p : Program} {l : Launch} {e : Env} {R : Room} {s : State} {m : MethodId} {args : Array Value} {below : List Frame} {meth : Method} {c : Code} {T : State} {locs : List Loc} {cells slots : Nat} {a : Addr} {h0 : Heap}
    (X : Stand p l e R s m args below meth c T locs cells slots) (hh : s.heap = h0) (O : own_on a locs) : Keep h0 T.heap [a] := by
  subst hh
  obtain ⟨-, q2, -, -, -, q6⟩ := X.same
  refine ⟨q2, fun x cx hx hn => ?_, fun x cx hx => ?_⟩
  · obtain ⟨c', r1, r2, r3, r4⟩ := q6 x cx hx
    have r5 : c'.slots = cx.slots := Array.ext_getElem? fun i => r4 i fun hm => hn (List.mem_singleton.mpr (O _ hm))
    have r6 : c' = cx := by rw [r2, r5]
    rw [← r6]; exact r1
  · obtain ⟨c', r1, r2, r3, -⟩ := q6 x cx hx
    exact ⟨c', r1, by rw [r2], by rw [r2], r3⟩
theorem own_known {h0 h : Heap} {a : Addr} {ws : List Addr} (N : Unt h0 a) (K : Keep h0 h ws) : ∃ cell : Cell, h[a]? = some cell ∧ cell.vm ≠ .unknown := by
  obtain ⟨c, h1, h2, -⟩ := N
  obtain ⟨c', q1, -, q3, -⟩ := K.2.2 _ _ h1
  exact ⟨c', q1, by rw [q3, h2]; simp⟩
theorem own_takes {s : State} {cell : Cell} {k : Class} {f : Field} {v : Value} (hk : s.vm.classes[cell.cls]? = some k) (hord : k.kind = .ordinary) (hsz : cell.slots.size = k.instanceTypes.size) (hvm : cell.vm = .none)
    (hty : k.instanceTypes[f.slot]? = some f.type) (hv : fits f.type v = true) : Jvm.Takes s cell f v :=
  ⟨by rw [hsz]; exact (Array.getElem?_eq_some_iff.mp hty).1, by rw [hvm]; exact (Takes.of_laid hk hord hty hv).2⟩
/-- a static field of Throwable: found at Z with its cell's place, linked at s -/
theorem own_stat {Z s : State} {a0 args : Array Value} (hZ : Z.Warmed39 s.vm) {c index : Nat} {k : Class} {F D : String} (hc : s.vm.findClass tN = some c) (hk : s.vm.classes[c]? = some k)
    (hl : (Jvm.Cond.fieldLink tN index tN F D).before args s = true) (hy : (Jvm.Cond.laysStatic tN F D).before a0 Z = true) (pl : Platform) (hpl : pl.magicAccessors = ({} : Platform).magicAccessors) :
    ∃ (ci i : Nat) (f : Field) (a : Addr) (kz : Class), s.vm.FieldLinks pl c index ci c i ∧ s.rightAt c index (.field c i) = true ∧ k.fields[i]? = some f ∧ f.isStatic = true ∧ k.statics = some a ∧ Z.fieldFound? tN F D = some (c, kz, i, f) ∧ kz.statics = some a := by
  obtain ⟨cl, kz, i, f, a, cell, h1, h2, h3, h4, -⟩ := Cond.laysStatic_spec hy
  obtain ⟨k', h5, h6⟩ := State.fieldFound?_setVm hZ.alike h2
  have h7 : s.fieldFound? tN F D = some (cl, k', i, f) := h5
  have h1s : s.vm.findClass tN = some cl := by rw [hZ.alike.findClass]; exact h1
  cases h1s.symm.trans hc
  obtain ⟨ci, c1, k1, i1, f1, h8, h9, h10⟩ := Cond.fieldLink_spec hc hl pl hpl
  cases h7.symm.trans h8
  obtain ⟨h11, h12⟩ := State.fieldFound?_spec h7
  cases h11.symm.trans hk
  exact ⟨ci, i, f, a, kz, h9, h10, h12, h3, by rw [h6]; exact h4, h2, h4⟩
/-- a constructor or method named x: its parameters by its descriptor -/
theorem own_par {d : String} {sig : MethodDescriptor} {P : List FieldType} {r : Option FieldType} (h : parseMethodDescriptor d = some sig) (q : parseMethodDescriptor d = some ⟨P, r⟩) : sig.parameters = P := by
  cases h.symm.trans q; rfl
set_option maxRecDepth 65536 in
set_option maxHeartbeats 4000000 in
theorem own_thr {Z s : State} {a0 args : Array Value} (hw : ∀ d ∈ tables_1, d.before a0 Z = true) (hZ : Z.Warmed39 s.vm) {pl : Platform} (ho : pl.frameOwnsMonitors = true) (hf0 : pl.finalization = false) (hpl : pl.magicAccessors = ({} : Platform).magicAccessors) :
    ∃ T : ThrowableC, T.Links pl s ∧ s.vm.findClass tN = some T.cT ∧ s.methodNamed? tFill = some T.fill ∧ s.methodNamed? tFill0 = some T.fill0 ∧ s.fieldFound? tN "stackTrace" steD = some (T.cT, T.kT, T.i17, T.fStack) ∧ T.fStack.type = .array (.object "java/lang/StackTraceElement") ∧
      ∃ kz i, Z.fieldFound? tN "UNASSIGNED_STACK" steD = some (T.cT, kz, i, T.fUnassigned) ∧ kz.statics = some T.aS := by
  have wN : (Jvm.Cond.native tFill0).before args s = true := mvT hZ (hw _ (List.mem_of_getElem? (i := 86) rfl))
  have wS : (Jvm.Cond.superclass tN "java/lang/Object").before args s = true := mvT hZ (hw _ (List.mem_of_getElem? (i := 83) rfl))
  have wI : (Jvm.Cond.initialized tN).before args s = true := mvT hZ (hw _ (List.mem_of_getElem? (i := 65) rfl))
  have wF : (Jvm.Cond.instanceMethod tFill).before args s = true := mvT hZ (hw _ (List.mem_of_getElem? (i := 78) rfl))
  have wC : (Jvm.Cond.codeSync tFill jdk_78_method_18_code 1 (some (.object tN))).before args s = true := mvT hZ (hw _ (List.mem_of_getElem? (i := 84) rfl))
  have w0 : (Jvm.Cond.instanceMethod tFill0).before args s = true := mvT hZ (hw _ (List.mem_of_getElem? (i := 85) rfl))
  have wO : (Jvm.Cond.instanceMethod oInit).before args s = true := mvT hZ (hw _ (List.mem_of_getElem? (i := 7) rfl))
  have wB : (Jvm.Cond.code oInit object_method_1_code 1 none).before args s = true := mvT hZ (hw _ (List.mem_of_getElem? (i := 8) rfl))
  have v1 : (Jvm.Cond.methodLink tN 1 oInit).before args s = true := mvT hZ (hw _ (List.mem_of_getElem? (i := 67) rfl))
  have v27 : (Jvm.Cond.methodLink tN 27 tFill).before args s = true := mvT hZ (hw _ (List.mem_of_getElem? (i := 76) rfl))
  have v202 : (Jvm.Cond.methodLink tN 202 tFill0).before args s = true := mvT hZ (hw _ (List.mem_of_getElem? (i := 89) rfl))
  have yS : (Jvm.Cond.lays own_api tN "stackTrace" steD).before args s = true := mvT hZ (hw _ (List.mem_of_getElem? (i := 72) rfl))
  have yP : (Jvm.Cond.lays own_api tN "suppressedExceptions" listD).before args s = true := mvT hZ (hw _ (List.mem_of_getElem? (i := 75) rfl))
  obtain ⟨⟨c, j0⟩, g0, n0, m0, nat0, co0, lo0, si0⟩ := Cond.native_spec wN
  have hc : s.vm.findClass tN = some c := findClass_of_methodNamed n0
  obtain ⟨k, hk, hn⟩ := Vm.findClass_spec hc
  obtain ⟨_, k1, _, _, hk1, _, _, hor, _, hni⟩ := Cond.superclass_spec hc wS
  cases hk.symm.trans hk1
  obtain ⟨iF, gF, nF, mF, aF, sF, bF, -, -⟩ := Cond.ownMethod (x := tFill) hc hk wF
  obtain ⟨gF', cF, mF', coF, byF, loF, reF, lkF, -, siF⟩ := Cond.codeSync_spec nF wC
  cases mF.symm.trans mF'
  obtain ⟨i0, g0', n0', m0', at0, s0, b0, nm0, ds0⟩ := Cond.ownMethod (x := tFill0) hc hk w0
  cases n0.symm.trans n0'
  cases m0.symm.trans m0'
  obtain ⟨mO, gO, nO, mO1, sO, bO⟩ := Cond.instanceMethod_spec wO
  obtain ⟨gO', cO, mO2, coO, byO, loO, reO, lkO, -, siO⟩ := Cond.code_spec nO wB
  cases mO1.symm.trans mO2
  obtain ⟨kO, hkO, hnO⟩ := Vm.findClass_spec (findClass_of_methodNamed nO)
  obtain ⟨nmO, dsO⟩ := name_of_methodNamed nO mO1
  obtain ⟨ci1, t1, cf, l1, r1, hcf, p1⟩ := Cond.linkedMethod hc hk nO v1 pl hpl
  obtain ⟨ci27, t27, cf2, l27, r27, hcf2, p27⟩ := Cond.linkedMethod hc hk nF v27 pl hpl
  cases hcf.symm.trans hcf2
  obtain ⟨ci202, t202, cf3, l202, r202, hcf3, p202⟩ := Cond.linkedMethod hc hk n0 v202 pl hpl
  cases hcf.symm.trans hcf3
  obtain ⟨ci7, i7, f7, k7, g7, at7, s7, fn7, nm7, ty7, ff7⟩ := Cond.ownField (C' := own_api) (t := .object tN) hc hk (by decide +kernel) (mvT (args := args) hZ (hw _ (List.mem_of_getElem? (i := 68) rfl)) : (Jvm.Cond.fieldLink tN 7 tN "cause" "Ljava/lang/Throwable;").before args s = true) (mvT hZ (hw _ (List.mem_of_getElem? (i := 69) rfl)) : (Jvm.Cond.lays own_api tN "cause" "Ljava/lang/Throwable;").before args s = true) pl hpl
  obtain ⟨ci17, i17, f17, k17, g17, at17, s17, fn17, nm17, ty17, ff17⟩ := Cond.ownField (C' := own_api) (t := .array (.object "java/lang/StackTraceElement")) hc hk (by decide +kernel) (mvT hZ (hw _ (List.mem_of_getElem? (i := 71) rfl)) : (Jvm.Cond.fieldLink tN 17 tN "stackTrace" steD).before args s = true) yS pl hpl
  obtain ⟨ci24, i24, f24, k24, g24, at24, s24, fn24, nm24, ty24, ff24⟩ := Cond.ownField (C' := own_api) (t := .object "java/util/List") hc hk (by decide +kernel) (mvT hZ (hw _ (List.mem_of_getElem? (i := 74) rfl)) : (Jvm.Cond.fieldLink tN 24 tN "suppressedExceptions" listD).before args s = true) yP pl hpl
  obtain ⟨ci31, i31, f31, k31, g31, at31, s31, fn31, nm31, ty31, ff31⟩ := Cond.ownField (C' := own_api) (t := .object "java/lang/String") hc hk (by decide +kernel) (mvT hZ (hw _ (List.mem_of_getElem? (i := 103) rfl)) : (Jvm.Cond.fieldLink tN 31 tN "detailMessage" "Ljava/lang/String;").before args s = true) (mvT hZ (hw _ (List.mem_of_getElem? (i := 99) rfl)) : (Jvm.Cond.lays own_api tN "detailMessage" "Ljava/lang/String;").before args s = true) pl hpl
  obtain ⟨ci13, i13, f13, aS, kz, k13, g13, at13, s13, st13, z13, zs13⟩ := own_stat (args := args) hZ hc hk (mvT hZ (hw _ (List.mem_of_getElem? (i := 70) rfl)) : (Jvm.Cond.fieldLink tN 13 tN "UNASSIGNED_STACK" steD).before args s = true) ((hw _ (List.mem_of_getElem? (i := 96) rfl)) : (Jvm.Cond.laysStatic tN "UNASSIGNED_STACK" steD).before a0 Z = true) pl hpl
  obtain ⟨ci20, i20, f20, _, _, k20, g20, at20, s20, -, -, -⟩ := own_stat (args := args) hZ hc hk (mvT hZ (hw _ (List.mem_of_getElem? (i := 73) rfl)) : (Jvm.Cond.fieldLink tN 20 tN "SUPPRESSED_SENTINEL" listD).before args s = true) ((hw _ (List.mem_of_getElem? (i := 97) rfl)) : (Jvm.Cond.laysStatic tN "SUPPRESSED_SENTINEL" listD).before a0 Z = true) pl hpl
  have hap : f17.slot ≠ f24.slot := Cond.lays_apart yS yP ff17 ff24 (by rw [nm17, nm24]; decide)
  have hOf : lookupSpecial s.vm mO.cls "<init>" gO.desc = .method mO := by rw [dsO]; exact lookupSpecial_of_named nO mO1 sO
  have hOp : gO.sig.parameters.length = 0 := by rw [own_par siO (show parseMethodDescriptor oInit.desc = some ⟨[], none⟩ by decide +kernel)]; rfl
  refine ⟨{ cT := c, kT := k, cO := c, aS := aS, fillIdx := iF, fill0Idx := j0, initSIdx := iF, obj := mO, kObj := kO, methFill := gF, methFill0 := g0, methInitS := gF, methObj := gO, codeFill := cF, codeInitS := cF, codeObj := cO,
            fBack := f7, fDepth := f7, fStack := f17, fCause := f7, fSupp := f24, fMsg := f31, fUnassigned := f13, fSentinel := f20, cfT := cf, ci1 := ci1, n1 := t1, ci27 := ci27, n27 := t27, ci202 := ci202, n202 := t202, ci7 := ci7, i7 := i7, ci13 := ci13, i13 := i13, ci17 := ci17, i17 := i17, ci20 := ci20, i20 := i20, ci24 := ci24, i24 := i24 },
    ?_, hc, nF, n0, ff17, ty17, kz, i13, z13, zs13⟩
  exact { owns := ho, noFinalization := hf0, cls := hk, name := hn, boot := Vm.findClass_boot hc hk, notInterface := hni, initialized := Cond.initialized_spec hc hk wI, statics := st13, fillAt := aF, fillCode := coF, fillBytes := byF, fillLocals := loF, fillLocks := lkF, fillStatic := sF, fillAbstract := bF, fillReturns := reF, fillParams := own_par siF (show parseMethodDescriptor tFill.desc = some ⟨[], some (.object tN)⟩ by decide +kernel), fill0At := at0, fill0Name := nm0, fill0Desc := ds0, fill0Params := own_par si0 (show parseMethodDescriptor tFill0.desc = some ⟨[.int], some (.object tN)⟩ by decide +kernel), fill0Static := s0, fill0Native := nat0, fill0Code := co0, fill0Locks := lo0, fill0Abstract := b0, stackInstance := s17, stackNotFinal := fn17, unassignedStatic := s13, objClass := hkO, objClassName := hnO, objMethod := mO1, objName := nmO, objStatic := sO, objAbstract := bO, objFound := hOf, objParams := hOp, objCode := coO, objBytes := byO, objLocks := lkO, causeInstance := s7, causeNotFinal := fn7, sentinelStatic := s20, suppInstance := s24, suppNotFinal := fn24, msgInstance := s31, msgNotFinal := fn31, stackApartSupp := hap, file := hcf, mlink1 := l1, mright1 := r1, pool1 := p1, mlink27 := l27, mright27 := r27, pool27 := p27, mlink202 := l202, mright202 := r202, pool202 := p202, link7 := k7, right7 := g7, at7 := at7, link13 := k13, right13 := g13, at13 := at13, link17 := k17, right17 := g17, at17 := at17, link20 := k20, right20 := g20, at20 := at20, link24 := k24, right24 := g24, at24 := at24 }
set_option maxRecDepth 65536 in
set_option maxHeartbeats 4000000 in
theorem own_fill {p : Program} {l : Launch} {e : Env} {R : Room} {s : State} {m : MethodId} {args : Array Value} {below : List Frame} {meth : Method} {c : Code} {T : State} {locs : List Loc} {cells slots : Nat} {Z : State} {a0 : Array Value} {h : Heap}
    (X : Stand p l e R s m args below meth c T locs cells slots) (hx : p.tables.exec = Jvm.exec) (hl : l.flags = pinnedFlags) (hw : ∀ d ∈ tables_1, d.before a0 Z = true) (hZ : Z.Warmed39 s.vm) (hown : s.vm.findClass "java/lang/Throwable" = some m.cls) (hK : s.vm.MethodsKnown ∧ s.vm.FramesKnown below) (eT : T.heap = h)
    {a uu : Addr} (E : Exa Z h a own_api) (N : Unt h a) (B : Fld Z h a tN "backtrace" own_ob .null) (F : Fld Z h a tN "stackTrace" steD (.ref uu)) (S : Sta Z h tN "UNASSIGNED_STACK" steD (.ref uu))
    {g : JFrame} (hg : g.method = m) (hsize : g.locals.size = c.maxLocals) (hs : g.stack = [.ref a]) (hmo : 2 * g.monitorRoom + 0 ≤ 0) (hd : decode c.code g.pc = .ok (.invokevirtual 27, 3)) (hf : 2 < R.frames) (hlo : 0 + 42 ≤ R.locals) (hce : cells + 1 ≤ R.cells) (hsl : slots + 2752 ≤ R.slots) :
    ∃ (T' : State) (L : List Loc), own_on a L ∧ Stand p l e R s m args below meth c T' (locs ++ L) (cells + 1) (slots + 2752) ∧
      ∀ t, Steps p.tables e below (T'.setTop { g with pc := g.pc + 3, stack := [.ref a] }) t → Steps p.tables e below (T.setTop g) t := by
  have htr : e.platform.stackTraces = true := Jvm.ShelfD.Launch.traces_on hl X.admits
  have hpl : e.platform.magicAccessors = ({} : Platform).magicAccessors := by rw [X.admits.platform]
  obtain ⟨T0, LT, hc, nF, n0, ff17, ty17, kz, iz, z13, zs13⟩ := own_thr (args := args) hw hZ (pl := e.platform) (by rw [X.admits.platform]) (by rw [X.admits.platform]) hpl
  obtain ⟨cell, kc, e1, e2, e3, -, e5⟩ := E
  obtain ⟨c2, u1, u2, u3⟩ := N
  cases e1.symm.trans u1
  obtain ⟨c4, k2, i1, i2, i3, -⟩ := Cond.instantiable_spec ((hw _ (List.mem_of_getElem? (i := 29) rfl)) : (Jvm.Cond.instantiable own_api 9).before a0 Z = true)
  cases e2.symm.trans i1
  cases e3.symm.trans i2
  obtain ⟨ks, hks, hke⟩ := hZ.alike.2.2 _ _ e3
  have hfc : s.vm.findClass own_api = some cell.cls := by rw [hZ.alike.findClass]; exact e2
  have hord : ks.kind = .ordinary := by rw [hke]; exact i3
  have hsz : cell.slots.size = ks.instanceTypes.size := by rw [hke]; exact e5 i3
  have yD : (Jvm.Cond.lays own_api tN "depth" "I").before args s = true := mvT hZ (hw _ (List.mem_of_getElem? (i := 101) rfl))
  obtain ⟨tyS, -⟩ := Cond.laysAt hfc hks ff17 (mvT hZ (hw _ (List.mem_of_getElem? (i := 72) rfl)) : (Jvm.Cond.lays own_api tN "stackTrace" steD).before args s = true)
  obtain ⟨ci198, i198, fB, b1, b2, b3, b4, -, b6, b7, b8⟩ := Cond.ownField (C' := own_api) (t := .object "java/lang/Object") hc LT.cls (by decide +kernel) (mvT hZ (hw _ (List.mem_of_getElem? (i := 94) rfl)) : (Jvm.Cond.fieldLink tN 198 tN "backtrace" own_ob).before args s = true) (mvT hZ (hw _ (List.mem_of_getElem? (i := 100) rfl)) : (Jvm.Cond.lays own_api tN "backtrace" own_ob).before args s = true) e.platform hpl
  obtain ⟨tyB, -⟩ := Cond.laysAt hfc hks b8 (mvT hZ (hw _ (List.mem_of_getElem? (i := 100) rfl)) : (Jvm.Cond.lays own_api tN "backtrace" own_ob).before args s = true)
  obtain ⟨_, _, cD, kD, iD, fD, -, -, d1, d2, -⟩ := Cond.lays_spec yD
  cases (Cond.lays_declared yD d1).symm.trans hc
  obtain ⟨d3, d4⟩ := State.fieldFound?_spec d1
  cases d3.symm.trans LT.cls
  obtain ⟨d5, d6⟩ := State.fieldFound?_type d1 (t := .int) (by decide +kernel)
  obtain ⟨tyD, -⟩ := Cond.laysAt hfc hks d1 yD
  have hfb := Cond.soleField_find hc LT.cls (mvT hZ (hw _ (List.mem_of_getElem? (i := 81) rfl)) : (Jvm.Cond.soleField tN "backtrace").before args s = true) b3 b6 b4
  have hfd := Cond.soleField_find hc LT.cls (mvT hZ (hw _ (List.mem_of_getElem? (i := 82) rfl)) : (Jvm.Cond.soleField tN "depth").before args s = true) d4 d5 d2
  obtain ⟨comp, cO, kO, -, -, hkO, hkindO, hO⟩ := Cond.arrayOver_spec (Cond.arrayOver_alike (a' := args) hZ.alike ((hw _ (List.mem_of_getElem? (i := 80) rfl)) : (Jvm.Cond.arrayOver (.object "java/lang/Object")).before a0 Z = true))
  have hvS : cell.slots[T0.fStack.slot]? = some (.ref uu) := by
    obtain ⟨c3, cf, kf, i, f, f1, f2, -, -, -, -, f7⟩ := F
    cases e1.symm.trans f1
    obtain ⟨k', q, -⟩ := State.fieldFound?_setVm hZ.alike f2
    cases (show s.fieldFound? tN "stackTrace" steD = _ from q).symm.trans ff17
    exact f7
  have hvB : cell.slots[fB.slot]? = some .null := by
    obtain ⟨c3, cf, kf, i, f, f1, f2, -, -, -, -, f7⟩ := B
    cases e1.symm.trans f1
    obtain ⟨k', q, -⟩ := State.fieldFound?_setVm hZ.alike f2
    cases (show s.fieldFound? tN "backtrace" own_ob = _ from q).symm.trans b8
    exact f7
  obtain ⟨cs, is, kt, fs, st, cellS, s1, s2, s3, s4, s5, s6, s7⟩ := S
  cases s1.symm.trans z13
  cases s4.symm.trans zs13
  have hneS : T0.aS ≠ a := fun q => by
    rw [q, e1] at s5
    cases s5
    rw [u2] at s6
    cases s6
  have wE : (Jvm.Cond.selects own_api tFill tFill).before args s = true := mvT hZ (hw _ (List.mem_of_getElem? (i := 79) rfl))
  have hsel0 : selectMethod e.platform s.vm cell.cls T0.fill0 = .method T0.fill0 := by
    obtain ⟨c5, r5, m5, q1, q2, q3, q4, -⟩ := Cond.selects_spec (mvT hZ (hw _ (List.mem_of_getElem? (i := 98) rfl)) : (Jvm.Cond.selects own_api tFill0 tFill0).before args s = true)
    cases q1.symm.trans hfc
    cases q2.symm.trans (State.methodFound?_of_named n0 (by decide))
    cases q3.symm.trans n0
    rw [Launch.admits_selectMethod X.admits]
    exact q4
  obtain ⟨v6, vm6, ⟨T6, L6, c6, n6⟩, hW6, X6, ⟨hv6, C6, n, hn, -, -, -, -, -, hL6, hc6, hn6⟩, st6⟩ := X.virtualBack hx (own := tN) (C := own_api) (index := 27) (y := tFill) (z := tFill) hown (mvT hZ (hw _ (List.mem_of_getElem? (i := 76) rfl))) (mvT hZ (hw _ (List.mem_of_getElem? (i := 77) rfl))) (notFace_of_selects wE) wE (mvT hZ (hw _ (List.mem_of_getElem? (i := 78) rfl))) (by decide)
    (Jvm.Free.Exc.fillPaysAny (l := l) (W := 0) hx htr T0 LT nF (u0 := ⟨.ref uu, rfl⟩) (self := a) (cell := cell) (cellS := cellS) (fun _ => by rw [u2]; simp) (by rw [u2]; simp) (by rw [u3]) (by rw [u3]) hvS hsel0 hneS (fun q => by rw [q] at s6; cases s6) s7 (own_takes hks hord hsz u2 tyS (by rw [ty17]; rfl))
      ⟨{ ci198 := ci198, i198 := i198, fBack := fB }, ⟨b1, b2, b3, b4⟩, hvB⟩ hK.1 hK.2 hc hO hkO hkindO hfb hfd (fun x => own_takes hks hord hsz u2 tyB (by rw [b7]; rfl)) (fun x => own_takes hks hord hsz u2 tyD (by rw [d6]; rfl)) hf hlo)
    (b := a) (cB := cell.cls) hfc ⟨cell, by rw [eT]; exact e1, rfl, by rw [u2]; rfl⟩ (g := g) hg hsize (Steps.refl _) (argsL := []) (rest := [])
    (fun sig q => by rw [show parseMethodDescriptor tFill.desc = some ⟨[], some (.object tN)⟩ from by decide +kernel] at q; cases q; rfl) hs hmo hd
    (fun vmx hWx => ⟨rfl, hce, hsl, by show T.heap[a]? = _; rw [eT]; exact e1, by show T.heap[T0.aS]? = _; rw [eT]; exact s5⟩)
  dsimp only [Pt.U, Pt.locs, Pt.cells, Pt.slots] at X6 hL6 hc6 hn6 st6
  subst hv6 hL6 hc6 hn6
  refine ⟨T6, [⟨a, fB.slot⟩, ⟨a, fD.slot⟩, ⟨a, T0.fStack.slot⟩], fun y hy => ?_, own_mono X6 (Nat.le_refl _) (Nat.add_le_add_left hn _), fun t k => st6.trans k⟩
  simp only [List.mem_cons, List.not_mem_nil, or_false] at hy
  rcases hy with rfl | rfl | rfl <;> rfl
theorem ef_hsi (m : MethodId) (r0 : Addr) (q1 : Int64) : entryFrame m #[(.ref r0), (.long q1)] 3 = mkF m 0 #[.val (.ref r0), .val (.long q1), .second] [] := by first | (simp [entryFrame, mkF, argsToLocals, Value.category]; done) | rfl
theorem pn_1 : plainName "com/example/weighted_scheduler/weightedscheduler/HeapShare" = true := by first | (simp [plainName, overriddenIn]; done) | decide +kernel
abbrev LS_RJs (a0 : Addr) (a1 : Int64) : Array Slot := #[.val (.ref a0), .val (.long a1), .second]
theorem d1_0 : decode prog_23_method_1_code 0 = .ok (.aload_n 0, 1) := by decide +kernel
theorem d1_1 : decode prog_23_method_1_code 1 = .ok (.invokespecial 1, 3) := by decide +kernel
theorem d1_4 : decode prog_23_method_1_code 4 = .ok (.aload_n 0, 1) := by decide +kernel
theorem d1_5 : decode prog_23_method_1_code 5 = .ok (.lload_n 1, 1) := by decide +kernel
theorem d1_6 : decode prog_23_method_1_code 6 = .ok (.putfield 7, 3) := by decide +kernel
theorem d1_9 : decode prog_23_method_1_code 9 = .ok (.return_, 1) := by decide +kernel
def Qhsi (Z : State) (r0 : Addr) (q1 : Int64) (h0 : Heap) (n0 : Nat) (v : Option Value) (h : Heap) (L : List Loc) : Prop := v = none ∧ Fr n0 L ∧ Keep h0 h [r0]
set_option maxRecDepth 65536 in
set_option maxHeartbeats 40000000 in
theorem rmhsi (l : Launch) (Z : State) (a0 : Array Value) (hw : ∀ d ∈ tables_1, d.before a0 Z = true) (ws : List Jvm.Cond) (r0 : Addr) (q1 : Int64) (h0 : Heap) (n0 : Nat) (Z0 : n0 ≤ h0.size) (E0 : Exa Z h0 r0 "com/example/weighted_scheduler/weightedscheduler/HeapShare") (F0 : Fld Z h0 r0 "com/example/weighted_scheduler/weightedscheduler/HeapShare" "capacity" "J" (.long (0 : Int64))) (g_r0 : n0 ≤ r0) :
    MetFree l (⟨"com/example/weighted_scheduler/weightedscheduler/HeapShare", "<init>", "(J)V"⟩ : MethodName) (head1 (Jvm.Cond.code (⟨"com/example/weighted_scheduler/weightedscheduler/HeapShare", "<init>", "(J)V"⟩ : MethodName) prog_23_method_1_code 3 none :: ws) ({ frames := 1, cells := 0, slots := 0, locals := 20 } : Room)) (fun a U => a = #[(.ref r0), (.long q1)] ∧ Z.Warmed39 U.vm ∧ U.heap = h0) (fun _ _ _ _ _ => True) (fun _ U o U' => ∃ v L, o = .returned v ∧ Qhsi Z r0 q1 h0 n0 v U'.heap L ∧ FrameEnd U o U' L ({ frames := 1, cells := 0, slots := 0, locals := 20 } : Room).cells ({ frames := 1, cells := 0, slots := 0, locals := 20 } : Room).slots) := by
  refine MetFree.of_bodySF (plainFor_of_name pn_1) hisR ?_
  intro p e s m args below meth c s₁ Bd hml0 hP hK
  obtain ⟨rfl, hZ, hh⟩ := hP
  have hx := Bd.exec
  have hby := Bd.bytes
  have hml : c.maxLocals = 3 := hml0
  have hown : s.vm.findClass "com/example/weighted_scheduler/weightedscheduler/HeapShare" = some m.cls := findClass_of_methodNamed Bd.named
  have hnm := (name_of_methodNamed Bd.named Bd.method).1
  have X0 : Stand p l e ({ frames := 1, cells := 0, slots := 0, locals := 20 } : Room) s m #[(.ref r0), (.long q1)] below meth c s₁ [] 0 0 := Stand.of_body Bd
  have e0 : s₁.heap = h0 := by rw [← hh, Bd.state]; rfl
  have N0 := Fr.nil n0
  refine own_go (B := s₁.setTop (mkF m 0 (LS_RJs r0 q1) [])) (fun t k => castTop (ef_hsi m r0 q1) k) ?_
  have K0 : Keep h0 h0 [r0] := Keep.refl _ _
  refine own_go (B := s₁.setTop (mkF m 1 (LS_RJs r0 q1) [(.ref r0)])) (fun t k => ?_) ?_
  · show Steps p.tables e below (s₁.setTop (mkF m 0 (LS_RJs r0 q1) [])) _
    refine XS.aloadN X0.here hx rfl (hb hby d1_0) rfl rfl ?_
    exact k
  obtain ⟨T1, X1, e1, st1⟩ := initO X0 hx hZ hown (hw _ (List.mem_of_getElem? (i := 6) rfl)) (hw _ (List.mem_of_getElem? (i := 7) rfl)) (hw _ (List.mem_of_getElem? (i := 8) rfl)) e0 (g := (mkF m 1 (LS_RJs r0 q1) [(.ref r0)])) rfl (by rw [hml]; rfl) rfl (hb hby d1_1) (by decide) (W := 0) (by show 2 * 0 + _ ≤ _; exact Nat.le_of_eq rfl) (by decide)
  refine own_go (B := T1.setTop (mkF m 4 (LS_RJs r0 q1) [])) (fun t k => st1 _ k) ?_
  refine own_go (B := T1.setTop (mkF m 6 (LS_RJs r0 q1) [(.long q1), (.ref r0)])) (fun t k => ?_) ?_
  · show Steps p.tables e below (T1.setTop (mkF m 4 (LS_RJs r0 q1) [])) _
    refine XS.aloadN X1.here hx rfl (hb hby d1_4) rfl rfl ?_
    show Steps p.tables e below (T1.setTop (mkF m 5 (LS_RJs r0 q1) [(.ref r0)])) _
    refine XS.lloadN X1.here hx rfl (hb hby d1_5) rfl ?_
    exact k
  obtain ⟨T2, h2, X2, e2, W2, st2⟩ := putF X1 hx hZ hown (host := "") (Or.inl (hw _ (List.mem_of_getElem? (i := 9) rfl))) Via.refl e1 F0 E0 (Or.inr ⟨(hw _ (List.mem_of_getElem? (i := 10) rfl)), rfl, hnm⟩) (hw _ (List.mem_of_getElem? (i := 1) rfl)) (ty := .long) (by decide) rfl rfl (g := (mkF m 6 (LS_RJs r0 q1) [(.long q1), (.ref r0)])) rfl rfl (hb hby d1_6)
  have N2 := Fr.snoc X2 N0 g_r0
  have Fw2 := F0.same W2
  refine own_go (B := T2.setTop (mkF m 9 (LS_RJs r0 q1) [])) (fun t k => st2 _ k) ?_
  obtain ⟨fs, hr, hrun, hended, hW, hsame⟩ := X2.leave (v := none) (fun _ => rfl) (BodyLoose.notSynchronized Bd)
  refine ⟨_, _, ?_, hrun, hended, _, _, rfl, ?_, ⟨_, rfl⟩, hW, hsame.mono (by decide) (by decide)⟩
  · show Steps p.tables e below (T2.setTop (mkF m 9 (LS_RJs r0 q1) [])) _
    exact X2.returnOut hx Bd.returns (hb hby d1_9) hr
  · show Qhsi Z r0 q1 h0 n0 _ T2.heap _
    rw [e2]
    have K0_v3 := K0.wr W2 (Or.inl (List.mem_of_getElem? (i := 0) rfl))
    exact ⟨rfl, N2, K0_v3⟩
theorem ef_mnj (m : MethodId) (q0 : Int64) (q1 : Int64) : entryFrame m #[(.long q0), (.long q1)] 4 = mkF m 0 #[.val (.long q0), .second, .val (.long q1), .second] [] := by first | (simp [entryFrame, mkF, argsToLocals, Value.category]; done) | rfl
theorem pn_14 : plainFor (⟨"java/lang/Math", "min", "(JJ)J"⟩ : MethodName) = true := by decide +kernel
abbrev LS_JsJs (a0 : Int64) (a1 : Int64) : Array Slot := #[.val (.long a0), .second, .val (.long a1), .second]
theorem d14_0 : decode jdk_29_method_70_code 0 = .ok (.lload_n 0, 1) := by decide +kernel
theorem d14_1 : decode jdk_29_method_70_code 1 = .ok (.lload_n 2, 1) := by decide +kernel
theorem d14_2 : decode jdk_29_method_70_code 2 = .ok (.lcmp, 1) := by decide +kernel
theorem d14_3 : decode jdk_29_method_70_code 3 = .ok (.ifCond .gt 7, 3) := by decide +kernel
theorem d14_10 : decode jdk_29_method_70_code 10 = .ok (.lload_n 2, 1) := by decide +kernel
theorem d14_11 : decode jdk_29_method_70_code 11 = .ok (.lreturn, 1) := by decide +kernel
theorem d14_6 : decode jdk_29_method_70_code 6 = .ok (.lload_n 0, 1) := by decide +kernel
theorem d14_7 : decode jdk_29_method_70_code 7 = .ok (.goto 4, 3) := by decide +kernel
def Qmnj (Z : State) (q0 : Int64) (q1 : Int64) (h0 : Heap) (n0 : Nat) (v : Option Value) (h : Heap) (L : List Loc) : Prop := v = some (.long (if q1 < q0 then q1 else q0)) ∧ Fr n0 L ∧ h = h0
set_option maxRecDepth 65536 in
set_option maxHeartbeats 40000000 in
theorem rmmnj (l : Launch) (Z : State) (a0 : Array Value) (hw : ∀ d ∈ tables_1, d.before a0 Z = true) (ws : List Jvm.Cond) (q0 : Int64) (q1 : Int64) (h0 : Heap) (n0 : Nat) (Z0 : n0 ≤ h0.size) :
    MetFree l (⟨"java/lang/Math", "min", "(JJ)J"⟩ : MethodName) (head1 (Jvm.Cond.code (⟨"java/lang/Math", "min", "(JJ)J"⟩ : MethodName) jdk_29_method_70_code 4 (some .long) :: ws) ({ frames := 0, cells := 0, slots := 0, locals := 0 } : Room)) (fun a U => a = #[(.long q0), (.long q1)] ∧ Z.Warmed39 U.vm ∧ U.heap = h0) (fun _ _ _ _ _ => True) (fun _ U o U' => ∃ v L, o = .returned v ∧ Qmnj Z q0 q1 h0 n0 v U'.heap L ∧ FrameEnd U o U' L ({ frames := 0, cells := 0, slots := 0, locals := 0 } : Room).cells ({ frames := 0, cells := 0, slots := 0, locals := 0 } : Room).slots) := by
  refine MetFree.of_bodySF (Jvm.Free.JP.mathPlain rfl (by decide +kernel)) hisR ?_
  intro p e s m args below meth c s₁ Bd hml0 hP hK
  obtain ⟨rfl, hZ, hh⟩ := hP
  have hx := Bd.exec
  have hby := Bd.bytes
  have hml : c.maxLocals = 4 := hml0
  have hown : s.vm.findClass "java/lang/Math" = some m.cls := findClass_of_methodNamed Bd.named
  have hnm := (name_of_methodNamed Bd.named Bd.method).1
  have X0 : Stand p l e ({ frames := 0, cells := 0, slots := 0, locals := 0 } : Room) s m #[(.long q0), (.long q1)] below meth c s₁ [] 0 0 := Stand.of_body Bd
  have e0 : s₁.heap = h0 := by rw [← hh, Bd.state]; rfl
  have N0 := Fr.nil n0
  refine own_go (B := s₁.setTop (mkF m 0 (LS_JsJs q0 q1) [])) (fun t k => castTop (ef_mnj m q0 q1) k) ?_
  refine own_go (B := s₁.setTop (mkF m 3 (LS_JsJs q0 q1) [(.int (lcmpW q0 q1))])) (fun t k => ?_) ?_
  · show Steps p.tables e below (s₁.setTop (mkF m 0 (LS_JsJs q0 q1) [])) _
    refine XS.lloadN X0.here hx rfl (hb hby d14_0) rfl ?_
    show Steps p.tables e below (s₁.setTop (mkF m 1 (LS_JsJs q0 q1) [(.long q0)])) _
    refine XS.lloadN X0.here hx rfl (hb hby d14_1) rfl ?_
    show Steps p.tables e below (s₁.setTop (mkF m 2 (LS_JsJs q0 q1) [(.long q1), (.long q0)])) _
    refine XS.lcmp X0.here hx rfl (hb hby d14_2) rfl ?_
    exact k
  by_cases hc3_1 : q1 < q0
  · refine own_go (B := s₁.setTop (mkF m 11 (LS_JsJs q0 q1) [(.long q1)])) (fun t k => ?_) ?_
    · show Steps p.tables e below (s₁.setTop (mkF m 3 (LS_JsJs q0 q1) [(.int (lcmpW q0 q1))])) _
      refine XS.ifYes X0.here hx rfl (pc0 := 3) (pc' := 10) rfl (hb hby d14_3) rfl ((if0 _ _).trans (tlt ((lw_gt q0 q1).mpr hc3_1)).2.2.1) (by decide) (by decide) ?_
      show Steps p.tables e below (s₁.setTop (mkF m 10 (LS_JsJs q0 q1) [])) _
      refine XS.lloadN X0.here hx rfl (hb hby d14_10) rfl ?_
      exact k
    obtain ⟨fs, hr, hrun, hended, hW, hsame⟩ := X0.leave (v := some (.long q1)) (fun h => by rw [Bd.returns] at h; cases h) (BodyLoose.notSynchronized Bd)
    refine ⟨_, _, ?_, hrun, hended, _, _, rfl, ?_, ⟨_, rfl⟩, hW, hsame.mono (by decide) (by decide)⟩
    · show Steps p.tables e below (s₁.setTop (mkF m 11 (LS_JsJs q0 q1) [(.long q1)])) _
      exact retOut X0 hx Bd.returns rfl (Or.inr (Or.inl ⟨rfl, rfl, _, rfl⟩)) (hb hby d14_11) hr
    · show Qmnj Z q0 q1 h0 n0 _ s₁.heap _
      rw [e0]
      exact ⟨by rw [if_pos hc3_1], N0, rfl⟩
  · refine own_go (B := s₁.setTop (mkF m 11 (LS_JsJs q0 q1) [(.long q0)])) (fun t k => ?_) ?_
    · show Steps p.tables e below (s₁.setTop (mkF m 3 (LS_JsJs q0 q1) [(.int (lcmpW q0 q1))])) _
      refine XS.ifNo X0.here hx rfl (hb hby d14_3) rfl ((if0 _ _).trans (flt (fun q => hc3_1 ((lw_gt q0 q1).mp q))).2.2.1) ?_
      show Steps p.tables e below (s₁.setTop (mkF m 6 (LS_JsJs q0 q1) [])) _
      refine XS.lloadN X0.here hx rfl (hb hby d14_6) rfl ?_
      show Steps p.tables e below (s₁.setTop (mkF m 7 (LS_JsJs q0 q1) [(.long q0)])) _
      refine XS.goto X0.here hx rfl (pc0 := 7) (pc' := 11) rfl (hb hby d14_7) (by decide) (by decide) ?_
      exact k
    obtain ⟨fs, hr, hrun, hended, hW, hsame⟩ := X0.leave (v := some (.long q0)) (fun h => by rw [Bd.returns] at h; cases h) (BodyLoose.notSynchronized Bd)
    refine ⟨_, _, ?_, hrun, hended, _, _, rfl, ?_, ⟨_, rfl⟩, hW, hsame.mono (by decide) (by decide)⟩
    · show Steps p.tables e below (s₁.setTop (mkF m 11 (LS_JsJs q0 q1) [(.long q0)])) _
      exact retOut X0 hx Bd.returns rfl (Or.inr (Or.inl ⟨rfl, rfl, _, rfl⟩)) (hb hby d14_11) hr
    · show Qmnj Z q0 q1 h0 n0 _ s₁.heap _
      rw [e0]
      exact ⟨by rw [if_neg hc3_1], N0, rfl⟩
theorem ef_rbi (m : MethodId) (r0 : Addr) (q1 : Int64) (q2 : Int64) (r3 : Addr) : entryFrame m #[(.ref r0), (.long q1), (.long q2), (.ref r3)] 6 = mkF m 0 #[.val (.ref r0), .val (.long q1), .second, .val (.long q2), .second, .val (.ref r3)] [] := by first | (simp [entryFrame, mkF, argsToLocals, Value.category]; done) | rfl
theorem pn_3 : plainName "com/example/weighted_scheduler/weightedscheduler/RequestBody" = true := by first | (simp [plainName, overriddenIn]; done) | decide +kernel
abbrev LS_RJsJsR (a0 : Addr) (a1 : Int64) (a2 : Int64) (a3 : Addr) : Array Slot := #[.val (.ref a0), .val (.long a1), .second, .val (.long a2), .second, .val (.ref a3)]
theorem d3_0 : decode prog_44_method_1_code 0 = .ok (.aload_n 0, 1) := by decide +kernel
theorem d3_1 : decode prog_44_method_1_code 1 = .ok (.invokespecial 1, 3) := by decide +kernel
theorem d3_4 : decode prog_44_method_1_code 4 = .ok (.aload_n 0, 1) := by decide +kernel
theorem d3_5 : decode prog_44_method_1_code 5 = .ok (.iconst 0, 1) := by decide +kernel
theorem d3_6 : decode prog_44_method_1_code 6 = .ok (.newarray .byte, 2) := by decide +kernel
theorem d3_8 : decode prog_44_method_1_code 8 = .ok (.putfield 7, 3) := by decide +kernel
theorem d3_11 : decode prog_44_method_1_code 11 = .ok (.aload_n 0, 1) := by decide +kernel
theorem d3_12 : decode prog_44_method_1_code 12 = .ok (.lload_n 1, 1) := by decide +kernel
theorem d3_13 : decode prog_44_method_1_code 13 = .ok (.putfield 13, 3) := by decide +kernel
theorem d3_16 : decode prog_44_method_1_code 16 = .ok (.aload_n 0, 1) := by decide +kernel
theorem d3_17 : decode prog_44_method_1_code 17 = .ok (.lload_n 3, 1) := by decide +kernel
theorem d3_18 : decode prog_44_method_1_code 18 = .ok (.lconst 0, 1) := by decide +kernel
theorem d3_19 : decode prog_44_method_1_code 19 = .ok (.lcmp, 1) := by decide +kernel
theorem d3_20 : decode prog_44_method_1_code 20 = .ok (.ifCond .ge 9, 3) := by decide +kernel
theorem d3_23 : decode prog_44_method_1_code 23 = .ok (.ldc2_w 17, 3) := by decide +kernel
theorem d3_26 : decode prog_44_method_1_code 26 = .ok (.goto 10, 3) := by decide +kernel
theorem d3_36 : decode prog_44_method_1_code 36 = .ok (.l2i, 1) := by decide +kernel
theorem d3_37 : decode prog_44_method_1_code 37 = .ok (.putfield 25, 3) := by decide +kernel
theorem d3_40 : decode prog_44_method_1_code 40 = .ok (.aload_n 0, 1) := by decide +kernel
theorem d3_41 : decode prog_44_method_1_code 41 = .ok (.aload 5, 2) := by decide +kernel
theorem d3_43 : decode prog_44_method_1_code 43 = .ok (.putfield 29, 3) := by decide +kernel
theorem d3_46 : decode prog_44_method_1_code 46 = .ok (.return_, 1) := by decide +kernel
theorem d3_29 : decode prog_44_method_1_code 29 = .ok (.lload_n 3, 1) := by decide +kernel
theorem d3_30 : decode prog_44_method_1_code 30 = .ok (.ldc2_w 17, 3) := by decide +kernel
theorem d3_33 : decode prog_44_method_1_code 33 = .ok (.invokestatic 19, 3) := by decide +kernel
theorem pd__JJ_J : parseMethodDescriptor "(JJ)J" = some ⟨[.long, .long], some .long⟩ := by decide +kernel
def Qrbi (Z : State) (r0 : Addr) (q1 : Int64) (q2 : Int64) (r3 : Addr) (h0 : Heap) (n0 : Nat) (v : Option Value) (h : Heap) (L : List Loc) : Prop := v = none ∧ Fr n0 L ∧ Keep h0 h [r0] ∧ Fld Z h r0 "com/example/weighted_scheduler/weightedscheduler/RequestBody" "refusal" "Lcom/example/weighted_scheduler/weightedscheduler/ApiError;" .null ∧ Fld Z h r0 "com/example/weighted_scheduler/weightedscheduler/RequestBody" "shortOfMemory" "Z" (.int (0 : Int32))
set_option maxRecDepth 65536 in
set_option maxHeartbeats 40000000 in
theorem rmrbi (l : Launch) (Z : State) (a0 : Array Value) (hw : ∀ d ∈ tables_1, d.before a0 Z = true) (ws : List Jvm.Cond) (r0 : Addr) (q1 : Int64) (q2 : Int64) (r3 : Addr) (h0 : Heap) (n0 : Nat) (Z0 : n0 ≤ h0.size) (E0 : Exa Z h0 r0 "com/example/weighted_scheduler/weightedscheduler/RequestBody") (F0 : Fld Z h0 r0 "com/example/weighted_scheduler/weightedscheduler/RequestBody" "bytes" "[B" .null) (F1 : Fld Z h0 r0 "com/example/weighted_scheduler/weightedscheduler/RequestBody" "startedAt" "J" (.long (0 : Int64))) (F2 : Fld Z h0 r0 "com/example/weighted_scheduler/weightedscheduler/RequestBody" "longest" "I" (.int (0 : Int32))) (F3 : Fld Z h0 r0 "com/example/weighted_scheduler/weightedscheduler/RequestBody" "memory" "Lcom/example/weighted_scheduler/weightedscheduler/HeapShare;" .null) (F4 : Fld Z h0 r0 "com/example/weighted_scheduler/weightedscheduler/RequestBody" "refusal" "Lcom/example/weighted_scheduler/weightedscheduler/ApiError;" .null) (F5 : Fld Z h0 r0 "com/example/weighted_scheduler/weightedscheduler/RequestBody" "shortOfMemory" "Z" (.int (0 : Int32))) (g_r0 : n0 ≤ r0) :
    MetFree l (⟨"com/example/weighted_scheduler/weightedscheduler/RequestBody", "<init>", "(JJLcom/example/weighted_scheduler/weightedscheduler/HeapShare;)V"⟩ : MethodName) (head1 (Jvm.Cond.code (⟨"com/example/weighted_scheduler/weightedscheduler/RequestBody", "<init>", "(JJLcom/example/weighted_scheduler/weightedscheduler/HeapShare;)V"⟩ : MethodName) prog_44_method_1_code 6 none :: ws) ({ frames := 1, cells := 1, slots := 0, locals := 40 } : Room)) (fun a U => a = #[(.ref r0), (.long q1), (.long q2), (.ref r3)] ∧ Z.Warmed39 U.vm ∧ U.heap = h0) (fun _ _ _ _ _ => True) (fun _ U o U' => ∃ v L, o = .returned v ∧ Qrbi Z r0 q1 q2 r3 h0 n0 v U'.heap L ∧ FrameEnd U o U' L ({ frames := 1, cells := 1, slots := 0, locals := 40 } : Room).cells ({ frames := 1, cells := 1, slots := 0, locals := 40 } : Room).slots) := by
  refine MetFree.of_bodySF (plainFor_of_name pn_3) hisR ?_
  intro p e s m args below meth c s₁ Bd hml0 hP hK
  obtain ⟨rfl, hZ, hh⟩ := hP
  have hx := Bd.exec
  have hby := Bd.bytes
  have hml : c.maxLocals = 6 := hml0
  have hown : s.vm.findClass "com/example/weighted_scheduler/weightedscheduler/RequestBody" = some m.cls := findClass_of_methodNamed Bd.named
  have hnm := (name_of_methodNamed Bd.named Bd.method).1
  have X0 : Stand p l e ({ frames := 1, cells := 1, slots := 0, locals := 40 } : Room) s m #[(.ref r0), (.long q1), (.long q2), (.ref r3)] below meth c s₁ [] 0 0 := Stand.of_body Bd
  have e0 : s₁.heap = h0 := by rw [← hh, Bd.state]; rfl
  have N0 := Fr.nil n0
  refine own_go (B := s₁.setTop (mkF m 0 (LS_RJsJsR r0 q1 q2 r3) [])) (fun t k => castTop (ef_rbi m r0 q1 q2 r3) k) ?_
  have K0 : Keep h0 h0 [r0] := Keep.refl _ _
  refine own_go (B := s₁.setTop (mkF m 1 (LS_RJsJsR r0 q1 q2 r3) [(.ref r0)])) (fun t k => ?_) ?_
  · show Steps p.tables e below (s₁.setTop (mkF m 0 (LS_RJsJsR r0 q1 q2 r3) [])) _
    refine XS.aloadN X0.here hx rfl (hb hby d3_0) rfl rfl ?_
    exact k
  obtain ⟨T1, X1, e1, st1⟩ := initO X0 hx hZ hown (hw _ (List.mem_of_getElem? (i := 17) rfl)) (hw _ (List.mem_of_getElem? (i := 7) rfl)) (hw _ (List.mem_of_getElem? (i := 8) rfl)) e0 (g := (mkF m 1 (LS_RJsJsR r0 q1 q2 r3) [(.ref r0)])) rfl (by rw [hml]; rfl) rfl (hb hby d3_1) (by decide) (W := 0) (by show 2 * 0 + _ ≤ _; exact Nat.le_of_eq rfl) (by decide)
  refine own_go (B := T1.setTop (mkF m 4 (LS_RJsJsR r0 q1 q2 r3) [])) (fun t k => st1 _ k) ?_
  refine own_go (B := T1.setTop (mkF m 6 (LS_RJsJsR r0 q1 q2 r3) [(.int (0 : Int32)), (.ref r0)])) (fun t k => ?_) ?_
  · show Steps p.tables e below (T1.setTop (mkF m 4 (LS_RJsJsR r0 q1 q2 r3) [])) _
    refine XS.aloadN X1.here hx rfl (hb hby d3_4) rfl rfl ?_
    show Steps p.tables e below (T1.setTop (mkF m 5 (LS_RJsJsR r0 q1 q2 r3) [(.ref r0)])) _
    refine XS.iconst X1.here hx rfl (hb hby d3_5) ?_
    exact k
  obtain ⟨T2, h2, k2, X2, e2, E2, A2, st2⟩ := newP X1 hx hZ (hw _ (List.mem_of_getElem? (i := 18) rfl)) e1 (g := (mkF m 6 (LS_RJsJsR r0 q1 q2 r3) [(.int (0 : Int32)), (.ref r0)])) rfl (hb hby d3_6) rfl (by decide) (cap := 0) (by decide) (by decide) (by decide) (by decide)
  obtain ⟨b2, g2⟩ : ∃ z, z = h0.size := ⟨_, rfl⟩
  rw [← g2] at A2 st2
  have g_b2 : n0 ≤ b2 := Nat.le_trans Z0 (Nat.le_of_eq g2.symm)
  have sz_b2 : h0.size ≤ b2 := Nat.le_trans K0.1 (Nat.le_of_eq g2.symm)
  have V2 : Arv Z h2 b2 k2 .byte (0 : Int32) [] (.int (0 : Int32)) := Arv.new A2 (by decide)
  refine own_go (B := T2.setTop (mkF m 8 (LS_RJsJsR r0 q1 q2 r3) [(.ref b2), (.ref r0)])) (fun t k => st2 _ k) ?_
  have E0_v3 := E0.ext E2
  have F0_v4 := F0.ext E2
  obtain ⟨T5, h5, X5, e5, W5, st5⟩ := putF X2 hx hZ hown (host := "") (Or.inl (hw _ (List.mem_of_getElem? (i := 19) rfl))) Via.refl e2 F0_v4 E0_v3 (Or.inl (hw _ (List.mem_of_getElem? (i := 20) rfl))) (hw _ (List.mem_of_getElem? (i := 12) rfl)) (ty := (.array .byte)) (by decide) rfl rfl (g := (mkF m 8 (LS_RJsJsR r0 q1 q2 r3) [(.ref b2), (.ref r0)])) rfl rfl (hb hby d3_8)
  have N5 := Fr.snoc X5 N0 g_r0
  have Fw5 := F0_v4.same W5
  refine own_go (B := T5.setTop (mkF m 11 (LS_RJsJsR r0 q1 q2 r3) [])) (fun t k => st5 _ k) ?_
  refine own_go (B := T5.setTop (mkF m 13 (LS_RJsJsR r0 q1 q2 r3) [(.long q1), (.ref r0)])) (fun t k => ?_) ?_
  · show Steps p.tables e below (T5.setTop (mkF m 11 (LS_RJsJsR r0 q1 q2 r3) [])) _
    refine XS.aloadN X5.here hx rfl (hb hby d3_11) rfl rfl ?_
    show Steps p.tables e below (T5.setTop (mkF m 12 (LS_RJsJsR r0 q1 q2 r3) [(.ref r0)])) _
    refine XS.lloadN X5.here hx rfl (hb hby d3_12) rfl ?_
    exact k
  have E0_v6 := E0_v3.wr W5
  have F1_v7 := F1.ext E2
  have F1_v8 := F1_v7.other W5 (Or.inr (slot_ne (Or.inr (hw _ (List.mem_of_getElem? (i := 22) rfl))) (Or.inl (hw _ (List.mem_of_getElem? (i := 20) rfl))) (by decide) (t := .long) (t' := (.array .byte)) (by decide) (by decide)))
  obtain ⟨T9, h9, X9, e9, W9, st9⟩ := putF X5 hx hZ hown (host := "") (Or.inl (hw _ (List.mem_of_getElem? (i := 21) rfl))) Via.refl e5 F1_v8 E0_v6 (Or.inr ⟨(hw _ (List.mem_of_getElem? (i := 22) rfl)), rfl, hnm⟩) (hw _ (List.mem_of_getElem? (i := 12) rfl)) (ty := .long) (by decide) rfl rfl (g := (mkF m 13 (LS_RJsJsR r0 q1 q2 r3) [(.long q1), (.ref r0)])) rfl rfl (hb hby d3_13)
  have N9 := Fr.snoc X9 N5 g_r0
  have Fw9 := F1_v8.same W9
  refine own_go (B := T9.setTop (mkF m 16 (LS_RJsJsR r0 q1 q2 r3) [])) (fun t k => st9 _ k) ?_
  refine own_go (B := T9.setTop (mkF m 20 (LS_RJsJsR r0 q1 q2 r3) [(.int (lcmpW q2 (0 : Int64))), (.ref r0)])) (fun t k => ?_) ?_
  · show Steps p.tables e below (T9.setTop (mkF m 16 (LS_RJsJsR r0 q1 q2 r3) [])) _
    refine XS.aloadN X9.here hx rfl (hb hby d3_16) rfl rfl ?_
    show Steps p.tables e below (T9.setTop (mkF m 17 (LS_RJsJsR r0 q1 q2 r3) [(.ref r0)])) _
    refine XS.lloadN X9.here hx rfl (hb hby d3_17) rfl ?_
    show Steps p.tables e below (T9.setTop (mkF m 18 (LS_RJsJsR r0 q1 q2 r3) [(.long q2), (.ref r0)])) _
    refine XS.lconst X9.here hx rfl (hb hby d3_18) ?_
    show Steps p.tables e below (T9.setTop (mkF m 19 (LS_RJsJsR r0 q1 q2 r3) [(.long (0 : Int64)), (.long q2), (.ref r0)])) _
    refine XS.lcmp X9.here hx rfl (hb hby d3_19) rfl ?_
    exact k
  by_cases hc20_10 : q2 < (0 : Int64)
  · refine own_go (B := T9.setTop (mkF m 37 (LS_RJsJsR r0 q1 q2 r3) [(.int ((1048576 : Int64).toInt32)), (.ref r0)])) (fun t k => ?_) ?_
    · show Steps p.tables e below (T9.setTop (mkF m 20 (LS_RJsJsR r0 q1 q2 r3) [(.int (lcmpW q2 (0 : Int64))), (.ref r0)])) _
      refine XS.ifNo X9.here hx rfl (hb hby d3_20) rfl ((if0 _ _).trans (tlt ((lw_lt q2 (0 : Int64)).mpr hc20_10)).2.1) ?_
      show Steps p.tables e below (T9.setTop (mkF m 23 (LS_RJsJsR r0 q1 q2 r3) [(.ref r0)])) _
      refine X9.ldc2Long hx hown (mvT hZ (hw _ (List.mem_of_getElem? (i := 23) rfl))) (g := (mkF m 23 (LS_RJsJsR r0 q1 q2 r3) [(.ref r0)])) rfl (hb hby d3_23) _ ?_
      show Steps p.tables e below (T9.setTop (mkF m 26 (LS_RJsJsR r0 q1 q2 r3) [(.long (1048576 : Int64)), (.ref r0)])) _
      refine XS.goto X9.here hx rfl (pc0 := 26) (pc' := 36) rfl (hb hby d3_26) (by decide) (by decide) ?_
      show Steps p.tables e below (T9.setTop (mkF m 36 (LS_RJsJsR r0 q1 q2 r3) [(.long (1048576 : Int64)), (.ref r0)])) _
      refine XS.l2i X9.here hx rfl (hb hby d3_36) rfl ?_
      exact k
    have E0_v11 := E0_v6.wr W9
    have F2_v12 := F2.ext E2
    have F2_v13 := F2_v12.other W5 (Or.inr (slot_ne (Or.inr (hw _ (List.mem_of_getElem? (i := 25) rfl))) (Or.inl (hw _ (List.mem_of_getElem? (i := 20) rfl))) (by decide) (t := .int) (t' := (.array .byte)) (by decide) (by decide)))
    have F2_v14 := F2_v13.other W9 (Or.inr (slot_ne (Or.inr (hw _ (List.mem_of_getElem? (i := 25) rfl))) (Or.inr (hw _ (List.mem_of_getElem? (i := 22) rfl))) (by decide) (t := .int) (t' := .long) (by decide) (by decide)))
    obtain ⟨T15, h15, X15, e15, W15, st15⟩ := putF X9 hx hZ hown (host := "") (Or.inl (hw _ (List.mem_of_getElem? (i := 24) rfl))) Via.refl e9 F2_v14 E0_v11 (Or.inr ⟨(hw _ (List.mem_of_getElem? (i := 25) rfl)), rfl, hnm⟩) (hw _ (List.mem_of_getElem? (i := 12) rfl)) (ty := .int) (by decide) rfl rfl (g := (mkF m 37 (LS_RJsJsR r0 q1 q2 r3) [(.int ((1048576 : Int64).toInt32)), (.ref r0)])) rfl rfl (hb hby d3_37)
    have N15 := Fr.snoc X15 N9 g_r0
    have Fw15 := F2_v14.same W15
    refine own_go (B := T15.setTop (mkF m 40 (LS_RJsJsR r0 q1 q2 r3) [])) (fun t k => st15 _ k) ?_
    refine own_go (B := T15.setTop (mkF m 43 (LS_RJsJsR r0 q1 q2 r3) [(.ref r3), (.ref r0)])) (fun t k => ?_) ?_
    · show Steps p.tables e below (T15.setTop (mkF m 40 (LS_RJsJsR r0 q1 q2 r3) [])) _
      refine XS.aloadN X15.here hx rfl (hb hby d3_40) rfl rfl ?_
      show Steps p.tables e below (T15.setTop (mkF m 41 (LS_RJsJsR r0 q1 q2 r3) [(.ref r0)])) _
      refine XS.aload X15.here hx rfl (hb hby d3_41) rfl rfl ?_
      exact k
    have E0_v16 := E0_v11.wr W15
    have F3_v17 := F3.ext E2
    have F3_v18 := F3_v17.other W5 (Or.inr (slot_ne (Or.inr (hw _ (List.mem_of_getElem? (i := 27) rfl))) (Or.inl (hw _ (List.mem_of_getElem? (i := 20) rfl))) (by decide) (t := (.object "com/example/weighted_scheduler/weightedscheduler/HeapShare")) (t' := (.array .byte)) (by decide) (by decide)))
    have F3_v19 := F3_v18.other W9 (Or.inr (slot_ne (Or.inr (hw _ (List.mem_of_getElem? (i := 27) rfl))) (Or.inr (hw _ (List.mem_of_getElem? (i := 22) rfl))) (by decide) (t := (.object "com/example/weighted_scheduler/weightedscheduler/HeapShare")) (t' := .long) (by decide) (by decide)))
    have F3_v20 := F3_v19.other W15 (Or.inr (slot_ne (Or.inr (hw _ (List.mem_of_getElem? (i := 27) rfl))) (Or.inr (hw _ (List.mem_of_getElem? (i := 25) rfl))) (by decide) (t := (.object "com/example/weighted_scheduler/weightedscheduler/HeapShare")) (t' := .int) (by decide) (by decide)))
    obtain ⟨T21, h21, X21, e21, W21, st21⟩ := putF X15 hx hZ hown (host := "") (Or.inl (hw _ (List.mem_of_getElem? (i := 26) rfl))) Via.refl e15 F3_v20 E0_v16 (Or.inr ⟨(hw _ (List.mem_of_getElem? (i := 27) rfl)), rfl, hnm⟩) (hw _ (List.mem_of_getElem? (i := 12) rfl)) (ty := (.object "com/example/weighted_scheduler/weightedscheduler/HeapShare")) (by decide) rfl rfl (g := (mkF m 43 (LS_RJsJsR r0 q1 q2 r3) [(.ref r3), (.ref r0)])) rfl rfl (hb hby d3_43)
    have N21 := Fr.snoc X21 N15 g_r0
    have Fw21 := F3_v20.same W21
    refine own_go (B := T21.setTop (mkF m 46 (LS_RJsJsR r0 q1 q2 r3) [])) (fun t k => st21 _ k) ?_
    obtain ⟨fs, hr, hrun, hended, hW, hsame⟩ := X21.leave (v := none) (fun _ => rfl) (BodyLoose.notSynchronized Bd)
    refine ⟨_, _, ?_, hrun, hended, _, _, rfl, ?_, ⟨_, rfl⟩, hW, hsame.mono (by decide) (by decide)⟩
    · show Steps p.tables e below (T21.setTop (mkF m 46 (LS_RJsJsR r0 q1 q2 r3) [])) _
      exact X21.returnOut hx Bd.returns (hb hby d3_46) hr
    · show Qrbi Z r0 q1 q2 r3 h0 n0 _ T21.heap _
      rw [e21]
      have K0_v22 := K0.ext E2
      have K0_v23 := K0_v22.wr W5 (Or.inl (List.mem_of_getElem? (i := 0) rfl))
      have K0_v24 := K0_v23.wr W9 (Or.inl (List.mem_of_getElem? (i := 0) rfl))
      have K0_v25 := K0_v24.wr W15 (Or.inl (List.mem_of_getElem? (i := 0) rfl))
      have K0_v26 := K0_v25.wr W21 (Or.inl (List.mem_of_getElem? (i := 0) rfl))
      have F4_v27 := F4.ext E2
      have F4_v28 := F4_v27.other W5 (Or.inr (slot_ne (Or.inl (hw _ (List.mem_of_getElem? (i := 116) rfl))) (Or.inl (hw _ (List.mem_of_getElem? (i := 20) rfl))) (by decide) (t := (.object "com/example/weighted_scheduler/weightedscheduler/ApiError")) (t' := (.array .byte)) (by decide) (by decide)))
      have F4_v29 := F4_v28.other W9 (Or.inr (slot_ne (Or.inl (hw _ (List.mem_of_getElem? (i := 116) rfl))) (Or.inr (hw _ (List.mem_of_getElem? (i := 22) rfl))) (by decide) (t := (.object "com/example/weighted_scheduler/weightedscheduler/ApiError")) (t' := .long) (by decide) (by decide)))
      have F4_v30 := F4_v29.other W15 (Or.inr (slot_ne (Or.inl (hw _ (List.mem_of_getElem? (i := 116) rfl))) (Or.inr (hw _ (List.mem_of_getElem? (i := 25) rfl))) (by decide) (t := (.object "com/example/weighted_scheduler/weightedscheduler/ApiError")) (t' := .int) (by decide) (by decide)))
      have F4_v31 := F4_v30.other W21 (Or.inr (slot_ne (Or.inl (hw _ (List.mem_of_getElem? (i := 116) rfl))) (Or.inr (hw _ (List.mem_of_getElem? (i := 27) rfl))) (by decide) (t := (.object "com/example/weighted_scheduler/weightedscheduler/ApiError")) (t' := (.object "com/example/weighted_scheduler/weightedscheduler/HeapShare")) (by decide) (by decide)))
      have F5_v32 := F5.ext E2
      have F5_v33 := F5_v32.other W5 (Or.inr (slot_ne (Or.inl (hw _ (List.mem_of_getElem? (i := 118) rfl))) (Or.inl (hw _ (List.mem_of_getElem? (i := 20) rfl))) (by decide) (t := .boolean) (t' := (.array .byte)) (by decide) (by decide)))
      have F5_v34 := F5_v33.other W9 (Or.inr (slot_ne (Or.inl (hw _ (List.mem_of_getElem? (i := 118) rfl))) (Or.inr (hw _ (List.mem_of_getElem? (i := 22) rfl))) (by decide) (t := .boolean) (t' := .long) (by decide) (by decide)))
      have F5_v35 := F5_v34.other W15 (Or.inr (slot_ne (Or.inl (hw _ (List.mem_of_getElem? (i := 118) rfl))) (Or.inr (hw _ (List.mem_of_getElem? (i := 25) rfl))) (by decide) (t := .boolean) (t' := .int) (by decide) (by decide)))
      have F5_v36 := F5_v35.other W21 (Or.inr (slot_ne (Or.inl (hw _ (List.mem_of_getElem? (i := 118) rfl))) (Or.inr (hw _ (List.mem_of_getElem? (i := 27) rfl))) (by decide) (t := .boolean) (t' := (.object "com/example/weighted_scheduler/weightedscheduler/HeapShare")) (by decide) (by decide)))
      exact ⟨rfl, N21, K0_v26, F4_v31, F5_v36⟩
  · refine own_go (B := T9.setTop (mkF m 33 (LS_RJsJsR r0 q1 q2 r3) [(.long (1048576 : Int64)), (.long q2), (.ref r0)])) (fun t k => ?_) ?_
    · show Steps p.tables e below (T9.setTop (mkF m 20 (LS_RJsJsR r0 q1 q2 r3) [(.int (lcmpW q2 (0 : Int64))), (.ref r0)])) _
      refine XS.ifYes X9.here hx rfl (pc0 := 20) (pc' := 29) rfl (hb hby d3_20) rfl ((if0 _ _).trans (flt (fun q => hc20_10 ((lw_lt q2 (0 : Int64)).mp q))).2.1) (by decide) (by decide) ?_
      show Steps p.tables e below (T9.setTop (mkF m 29 (LS_RJsJsR r0 q1 q2 r3) [(.ref r0)])) _
      refine XS.lloadN X9.here hx rfl (hb hby d3_29) rfl ?_
      show Steps p.tables e below (T9.setTop (mkF m 30 (LS_RJsJsR r0 q1 q2 r3) [(.long q2), (.ref r0)])) _
      refine X9.ldc2Long hx hown (mvT hZ (hw _ (List.mem_of_getElem? (i := 23) rfl))) (g := (mkF m 30 (LS_RJsJsR r0 q1 q2 r3) [(.long q2), (.ref r0)])) rfl (hb hby d3_30) _ ?_
      exact k
    have Z0_v37 := Nat.le_trans Z0 E2.1
    have Z0_v38 := Nat.le_trans Z0_v37 (Nat.le_of_eq W5.size.symm)
    have Z0_v39 := Nat.le_trans Z0_v38 (Nat.le_of_eq W9.size.symm)
    obtain ⟨_, _, ⟨T40, L40, k40, n40⟩, -, X40, ⟨Lc40, hQ40, l40, y40, z40⟩, st40⟩ := Jvm.LawKit.callS X9 hx (y := (⟨"java/lang/Math", "min", "(JJ)J"⟩ : MethodName)) hown (mvT hZ (hw _ (List.mem_of_getElem? (i := 124) rfl))) (mvT hZ (hw _ (List.mem_of_getElem? (i := 125) rfl))) (mvT hZ (hw _ (List.mem_of_getElem? (i := 126) rfl))) (mvT hZ (hw _ (List.mem_of_getElem? (i := 127) rfl))) (by decide) (backOf (W := 1) (rmmnj l Z a0 hw [] q2 (1048576 : Int64) h9 n0 Z0_v39) hZ (hw _ (List.mem_of_getElem? (i := 127) rfl)) (hw _ (List.mem_of_getElem? (i := 126) rfl)) (by decide) (by decide)) (g := (mkF m 33 (LS_RJsJsR r0 q1 q2 r3) [(.long (1048576 : Int64)), (.long q2), (.ref r0)])) rfl (by rw [hml]; rfl) (argsL := [(.long q2), (.long (1048576 : Int64))]) (rest := [(.ref r0)]) (lenOf pd__JJ_J rfl) rfl (by show 2 * 0 + _ ≤ _; exact Nat.le_of_eq rfl) (hb hby d3_33) (fun _ _ => ⟨rfl, e9, (by decide : 1 + 0 ≤ _), (by decide : 0 + 0 ≤ _)⟩)
    dsimp only [Pt.U, Pt.locs, Pt.cells, Pt.slots] at X40 l40 y40 z40 st40 hQ40
    subst l40 y40 z40
    obtain ⟨rfl, N40q, e40⟩ := hQ40
    have N40 := Fr.app N9 N40q
    refine own_go (B := T40.setTop (mkF m 36 (LS_RJsJsR r0 q1 q2 r3) [(.long (if (1048576 : Int64) < q2 then (1048576 : Int64) else q2)), (.ref r0)])) (fun t k => st40 _ k) ?_
    refine own_go (B := T40.setTop (mkF m 37 (LS_RJsJsR r0 q1 q2 r3) [(.int ((if (1048576 : Int64) < q2 then (1048576 : Int64) else q2).toInt32)), (.ref r0)])) (fun t k => ?_) ?_
    · show Steps p.tables e below (T40.setTop (mkF m 36 (LS_RJsJsR r0 q1 q2 r3) [(.long (if (1048576 : Int64) < q2 then (1048576 : Int64) else q2)), (.ref r0)])) _
      refine XS.l2i X40.here hx rfl (hb hby d3_36) rfl ?_
      exact k
    have E0_v41 := E0_v6.wr W9
    have F2_v42 := F2.ext E2
    have F2_v43 := F2_v42.other W5 (Or.inr (slot_ne (Or.inr (hw _ (List.mem_of_getElem? (i := 25) rfl))) (Or.inl (hw _ (List.mem_of_getElem? (i := 20) rfl))) (by decide) (t := .int) (t' := (.array .byte)) (by decide) (by decide)))
    have F2_v44 := F2_v43.other W9 (Or.inr (slot_ne (Or.inr (hw _ (List.mem_of_getElem? (i := 25) rfl))) (Or.inr (hw _ (List.mem_of_getElem? (i := 22) rfl))) (by decide) (t := .int) (t' := .long) (by decide) (by decide)))
    obtain ⟨T45, h45, X45, e45, W45, st45⟩ := putF X40 hx hZ hown (host := "") (Or.inl (hw _ (List.mem_of_getElem? (i := 24) rfl))) Via.refl e40 F2_v44 E0_v41 (Or.inr ⟨(hw _ (List.mem_of_getElem? (i := 25) rfl)), rfl, hnm⟩) (hw _ (List.mem_of_getElem? (i := 12) rfl)) (ty := .int) (by decide) rfl rfl (g := (mkF m 37 (LS_RJsJsR r0 q1 q2 r3) [(.int ((if (1048576 : Int64) < q2 then (1048576 : Int64) else q2).toInt32)), (.ref r0)])) rfl rfl (hb hby d3_37)
    have N45 := Fr.snoc X45 N40 g_r0
    have Fw45 := F2_v44.same W45
    refine own_go (B := T45.setTop (mkF m 40 (LS_RJsJsR r0 q1 q2 r3) [])) (fun t k => st45 _ k) ?_
    refine own_go (B := T45.setTop (mkF m 43 (LS_RJsJsR r0 q1 q2 r3) [(.ref r3), (.ref r0)])) (fun t k => ?_) ?_
    · show Steps p.tables e below (T45.setTop (mkF m 40 (LS_RJsJsR r0 q1 q2 r3) [])) _
      refine XS.aloadN X45.here hx rfl (hb hby d3_40) rfl rfl ?_
      show Steps p.tables e below (T45.setTop (mkF m 41 (LS_RJsJsR r0 q1 q2 r3) [(.ref r0)])) _
      refine XS.aload X45.here hx rfl (hb hby d3_41) rfl rfl ?_
      exact k
    have E0_v46 := E0_v41.wr W45
    have F3_v47 := F3.ext E2
    have F3_v48 := F3_v47.other W5 (Or.inr (slot_ne (Or.inr (hw _ (List.mem_of_getElem? (i := 27) rfl))) (Or.inl (hw _ (List.mem_of_getElem? (i := 20) rfl))) (by decide) (t := (.object "com/example/weighted_scheduler/weightedscheduler/HeapShare")) (t' := (.array .byte)) (by decide) (by decide)))
    have F3_v49 := F3_v48.other W9 (Or.inr (slot_ne (Or.inr (hw _ (List.mem_of_getElem? (i := 27) rfl))) (Or.inr (hw _ (List.mem_of_getElem? (i := 22) rfl))) (by decide) (t := (.object "com/example/weighted_scheduler/weightedscheduler/HeapShare")) (t' := .long) (by decide) (by decide)))
    have F3_v50 := F3_v49.other W45 (Or.inr (slot_ne (Or.inr (hw _ (List.mem_of_getElem? (i := 27) rfl))) (Or.inr (hw _ (List.mem_of_getElem? (i := 25) rfl))) (by decide) (t := (.object "com/example/weighted_scheduler/weightedscheduler/HeapShare")) (t' := .int) (by decide) (by decide)))
    obtain ⟨T51, h51, X51, e51, W51, st51⟩ := putF X45 hx hZ hown (host := "") (Or.inl (hw _ (List.mem_of_getElem? (i := 26) rfl))) Via.refl e45 F3_v50 E0_v46 (Or.inr ⟨(hw _ (List.mem_of_getElem? (i := 27) rfl)), rfl, hnm⟩) (hw _ (List.mem_of_getElem? (i := 12) rfl)) (ty := (.object "com/example/weighted_scheduler/weightedscheduler/HeapShare")) (by decide) rfl rfl (g := (mkF m 43 (LS_RJsJsR r0 q1 q2 r3) [(.ref r3), (.ref r0)])) rfl rfl (hb hby d3_43)
    have N51 := Fr.snoc X51 N45 g_r0
    have Fw51 := F3_v50.same W51
    refine own_go (B := T51.setTop (mkF m 46 (LS_RJsJsR r0 q1 q2 r3) [])) (fun t k => st51 _ k) ?_
    obtain ⟨fs, hr, hrun, hended, hW, hsame⟩ := X51.leave (v := none) (fun _ => rfl) (BodyLoose.notSynchronized Bd)
    refine ⟨_, _, ?_, hrun, hended, _, _, rfl, ?_, ⟨_, rfl⟩, hW, hsame.mono (by decide) (by decide)⟩
    · show Steps p.tables e below (T51.setTop (mkF m 46 (LS_RJsJsR r0 q1 q2 r3) [])) _
      exact X51.returnOut hx Bd.returns (hb hby d3_46) hr
    · show Qrbi Z r0 q1 q2 r3 h0 n0 _ T51.heap _
      rw [e51]
      have K0_v52 := K0.ext E2
      have K0_v53 := K0_v52.wr W5 (Or.inl (List.mem_of_getElem? (i := 0) rfl))
      have K0_v54 := K0_v53.wr W9 (Or.inl (List.mem_of_getElem? (i := 0) rfl))
      have K0_v55 := K0_v54.wr W45 (Or.inl (List.mem_of_getElem? (i := 0) rfl))
      have K0_v56 := K0_v55.wr W51 (Or.inl (List.mem_of_getElem? (i := 0) rfl))
      have F4_v57 := F4.ext E2
      have F4_v58 := F4_v57.other W5 (Or.inr (slot_ne (Or.inl (hw _ (List.mem_of_getElem? (i := 116) rfl))) (Or.inl (hw _ (List.mem_of_getElem? (i := 20) rfl))) (by decide) (t := (.object "com/example/weighted_scheduler/weightedscheduler/ApiError")) (t' := (.array .byte)) (by decide) (by decide)))
      have F4_v59 := F4_v58.other W9 (Or.inr (slot_ne (Or.inl (hw _ (List.mem_of_getElem? (i := 116) rfl))) (Or.inr (hw _ (List.mem_of_getElem? (i := 22) rfl))) (by decide) (t := (.object "com/example/weighted_scheduler/weightedscheduler/ApiError")) (t' := .long) (by decide) (by decide)))
      have F4_v60 := F4_v59.other W45 (Or.inr (slot_ne (Or.inl (hw _ (List.mem_of_getElem? (i := 116) rfl))) (Or.inr (hw _ (List.mem_of_getElem? (i := 25) rfl))) (by decide) (t := (.object "com/example/weighted_scheduler/weightedscheduler/ApiError")) (t' := .int) (by decide) (by decide)))
      have F4_v61 := F4_v60.other W51 (Or.inr (slot_ne (Or.inl (hw _ (List.mem_of_getElem? (i := 116) rfl))) (Or.inr (hw _ (List.mem_of_getElem? (i := 27) rfl))) (by decide) (t := (.object "com/example/weighted_scheduler/weightedscheduler/ApiError")) (t' := (.object "com/example/weighted_scheduler/weightedscheduler/HeapShare")) (by decide) (by decide)))
      have F5_v62 := F5.ext E2
      have F5_v63 := F5_v62.other W5 (Or.inr (slot_ne (Or.inl (hw _ (List.mem_of_getElem? (i := 118) rfl))) (Or.inl (hw _ (List.mem_of_getElem? (i := 20) rfl))) (by decide) (t := .boolean) (t' := (.array .byte)) (by decide) (by decide)))
      have F5_v64 := F5_v63.other W9 (Or.inr (slot_ne (Or.inl (hw _ (List.mem_of_getElem? (i := 118) rfl))) (Or.inr (hw _ (List.mem_of_getElem? (i := 22) rfl))) (by decide) (t := .boolean) (t' := .long) (by decide) (by decide)))
      have F5_v65 := F5_v64.other W45 (Or.inr (slot_ne (Or.inl (hw _ (List.mem_of_getElem? (i := 118) rfl))) (Or.inr (hw _ (List.mem_of_getElem? (i := 25) rfl))) (by decide) (t := .boolean) (t' := .int) (by decide) (by decide)))
      have F5_v66 := F5_v65.other W51 (Or.inr (slot_ne (Or.inl (hw _ (List.mem_of_getElem? (i := 118) rfl))) (Or.inr (hw _ (List.mem_of_getElem? (i := 27) rfl))) (by decide) (t := .boolean) (t' := (.object "com/example/weighted_scheduler/weightedscheduler/HeapShare")) (by decide) (by decide)))
      exact ⟨rfl, N51, K0_v56, F4_v61, F5_v66⟩
theorem ef_iw1 (m : MethodId) (r0 : Addr) : entryFrame m #[(.ref r0)] 1 = mkF m 0 #[.val (.ref r0)] [] := by first | (simp [entryFrame, mkF, argsToLocals, Value.category]; done) | rfl
theorem pn_12 : plainName "com/example/weighted_scheduler/weightedscheduler/RequestBody" = true := by first | (simp [plainName, overriddenIn]; done) | decide +kernel
abbrev LS_R (a0 : Addr) : Array Slot := #[.val (.ref a0)]
theorem d12_0 : decode prog_44_method_11_code 0 = .ok (.aload_n 0, 1) := by decide +kernel
theorem d12_1 : decode prog_44_method_11_code 1 = .ok (.getfield 99, 3) := by decide +kernel
theorem d12_4 : decode prog_44_method_11_code 4 = .ok (.ifnonnull 14, 3) := by decide +kernel
theorem d12_7 : decode prog_44_method_11_code 7 = .ok (.aload_n 0, 1) := by decide +kernel
theorem d12_8 : decode prog_44_method_11_code 8 = .ok (.getfield 66, 3) := by decide +kernel
theorem d12_11 : decode prog_44_method_11_code 11 = .ok (.ifCond .ne 7, 3) := by decide +kernel
theorem d12_14 : decode prog_44_method_11_code 14 = .ok (.iconst 1, 1) := by decide +kernel
theorem d12_15 : decode prog_44_method_11_code 15 = .ok (.goto 4, 3) := by decide +kernel
theorem d12_19 : decode prog_44_method_11_code 19 = .ok (.ireturn, 1) := by decide +kernel
def Qiw1 (Z : State) (r0 : Addr) (h0 : Heap) (n0 : Nat) (v : Option Value) (h : Heap) (L : List Loc) : Prop := v = some (.int (1 : Int32)) ∧ Fr n0 L ∧ h = h0
set_option maxRecDepth 65536 in
set_option maxHeartbeats 40000000 in
theorem rmiw1 (l : Launch) (Z : State) (a0 : Array Value) (hw : ∀ d ∈ tables_1, d.before a0 Z = true) (ws : List Jvm.Cond) (r0 : Addr) (h0 : Heap) (n0 : Nat) (Z0 : n0 ≤ h0.size) (F0 : Fld Z h0 r0 "com/example/weighted_scheduler/weightedscheduler/RequestBody" "refusal" "Lcom/example/weighted_scheduler/weightedscheduler/ApiError;" .null) (F1 : Fld Z h0 r0 "com/example/weighted_scheduler/weightedscheduler/RequestBody" "shortOfMemory" "Z" (.int (0 : Int32))) :
    MetFree l (⟨"com/example/weighted_scheduler/weightedscheduler/RequestBody", "isWhole", "()Z"⟩ : MethodName) (head1 (Jvm.Cond.code (⟨"com/example/weighted_scheduler/weightedscheduler/RequestBody", "isWhole", "()Z"⟩ : MethodName) prog_44_method_11_code 1 (some .boolean) :: ws) ({ frames := 0, cells := 0, slots := 0, locals := 0 } : Room)) (fun a U => a = #[(.ref r0)] ∧ Z.Warmed39 U.vm ∧ U.heap = h0) (fun _ _ _ _ _ => True) (fun _ U o U' => ∃ v L, o = .returned v ∧ Qiw1 Z r0 h0 n0 v U'.heap L ∧ FrameEnd U o U' L ({ frames := 0, cells := 0, slots := 0, locals := 0 } : Room).cells ({ frames := 0, cells := 0, slots := 0, locals := 0 } : Room).slots) := by
  refine MetFree.of_bodySF (plainFor_of_name pn_12) hisR ?_
  intro p e s m args below meth c s₁ Bd hml0 hP hK
  obtain ⟨rfl, hZ, hh⟩ := hP
  have hx := Bd.exec
  have hby := Bd.bytes
  have hml : c.maxLocals = 1 := hml0
  have hown : s.vm.findClass "com/example/weighted_scheduler/weightedscheduler/RequestBody" = some m.cls := findClass_of_methodNamed Bd.named
  have hnm := (name_of_methodNamed Bd.named Bd.method).1
  have X0 : Stand p l e ({ frames := 0, cells := 0, slots := 0, locals := 0 } : Room) s m #[(.ref r0)] below meth c s₁ [] 0 0 := Stand.of_body Bd
  have e0 : s₁.heap = h0 := by rw [← hh, Bd.state]; rfl
  have N0 := Fr.nil n0
  refine own_go (B := s₁.setTop (mkF m 0 (LS_R r0) [])) (fun t k => castTop (ef_iw1 m r0) k) ?_
  refine own_go (B := s₁.setTop (mkF m 1 (LS_R r0) [(.ref r0)])) (fun t k => ?_) ?_
  · show Steps p.tables e below (s₁.setTop (mkF m 0 (LS_R r0) [])) _
    refine XS.aloadN X0.here hx rfl (hb hby d12_0) rfl rfl ?_
    exact k
  obtain ⟨T1, X1, e1, st1⟩ := getF X0 hx hZ hown (host := "") (Or.inl (hw _ (List.mem_of_getElem? (i := 115) rfl))) Via.refl e0 F0 (g := (mkF m 1 (LS_R r0) [(.ref r0)])) rfl rfl (hb hby d12_1)
  refine own_go (B := T1.setTop (mkF m 4 (LS_R r0) [.null])) (fun t k => st1 _ k) ?_
  refine own_go (B := T1.setTop (mkF m 8 (LS_R r0) [(.ref r0)])) (fun t k => ?_) ?_
  · show Steps p.tables e below (T1.setTop (mkF m 4 (LS_R r0) [.null])) _
    refine XS.ifnonnullNo X1.here hx rfl (hb hby d12_4) rfl ?_
    show Steps p.tables e below (T1.setTop (mkF m 7 (LS_R r0) [])) _
    refine XS.aloadN X1.here hx rfl (hb hby d12_7) rfl rfl ?_
    exact k
  obtain ⟨T2, X2, e2, st2⟩ := getF X1 hx hZ hown (host := "") (Or.inl (hw _ (List.mem_of_getElem? (i := 117) rfl))) Via.refl e1 F1 (g := (mkF m 8 (LS_R r0) [(.ref r0)])) rfl rfl (hb hby d12_8)
  refine own_go (B := T2.setTop (mkF m 11 (LS_R r0) [(.int (0 : Int32))])) (fun t k => st2 _ k) ?_
  refine own_go (B := T2.setTop (mkF m 19 (LS_R r0) [(.int (1 : Int32))])) (fun t k => ?_) ?_
  · show Steps p.tables e below (T2.setTop (mkF m 11 (LS_R r0) [(.int (0 : Int32))])) _
    refine XS.ifNo X2.here hx rfl (hb hby d12_11) rfl ((if0 _ _).trans (teq (by decide : (0 : Int32) = (0 : Int32))).2) ?_
    show Steps p.tables e below (T2.setTop (mkF m 14 (LS_R r0) [])) _
    refine XS.iconst X2.here hx rfl (hb hby d12_14) ?_
    show Steps p.tables e below (T2.setTop (mkF m 15 (LS_R r0) [(.int (1 : Int32))])) _
    refine XS.goto X2.here hx rfl (pc0 := 15) (pc' := 19) rfl (hb hby d12_15) (by decide) (by decide) ?_
    exact k
  obtain ⟨fs, hr, hrun, hended, hW, hsame⟩ := X2.leave (v := some (.int (1 : Int32))) (fun h => by rw [Bd.returns] at h; cases h) (BodyLoose.notSynchronized Bd)
  refine ⟨_, _, ?_, hrun, hended, _, _, rfl, ?_, ⟨_, rfl⟩, hW, hsame.mono (by decide) (by decide)⟩
  · show Steps p.tables e below (T2.setTop (mkF m 19 (LS_R r0) [(.int (1 : Int32))])) _
    exact retN X2 hx (t := .boolean) Bd.returns (by simp) (hb hby d12_19) hr
  · show Qiw1 Z r0 h0 n0 _ T2.heap _
    rw [e2]
    exact ⟨rfl, N0, rfl⟩
theorem ef_iw0 (m : MethodId) (r0 : Addr) : entryFrame m #[(.ref r0)] 1 = mkF m 0 #[.val (.ref r0)] [] := by first | (simp [entryFrame, mkF, argsToLocals, Value.category]; done) | rfl
theorem d12_18 : decode prog_44_method_11_code 18 = .ok (.iconst 0, 1) := by decide +kernel
def Qiw0 (Z : State) (r0 : Addr) (wr : Addr) (h0 : Heap) (n0 : Nat) (v : Option Value) (h : Heap) (L : List Loc) : Prop := v = some (.int (0 : Int32)) ∧ Fr n0 L ∧ h = h0
set_option maxRecDepth 65536 in
set_option maxHeartbeats 40000000 in
theorem rmiw0 (l : Launch) (Z : State) (a0 : Array Value) (hw : ∀ d ∈ tables_1, d.before a0 Z = true) (ws : List Jvm.Cond) (r0 : Addr) (wr : Addr) (h0 : Heap) (n0 : Nat) (Z0 : n0 ≤ h0.size) (F0 : Fld Z h0 r0 "com/example/weighted_scheduler/weightedscheduler/RequestBody" "refusal" "Lcom/example/weighted_scheduler/weightedscheduler/ApiError;" (.ref wr)) :
    MetFree l (⟨"com/example/weighted_scheduler/weightedscheduler/RequestBody", "isWhole", "()Z"⟩ : MethodName) (head1 (Jvm.Cond.code (⟨"com/example/weighted_scheduler/weightedscheduler/RequestBody", "isWhole", "()Z"⟩ : MethodName) prog_44_method_11_code 1 (some .boolean) :: ws) ({ frames := 0, cells := 0, slots := 0, locals := 0 } : Room)) (fun a U => a = #[(.ref r0)] ∧ Z.Warmed39 U.vm ∧ U.heap = h0) (fun _ _ _ _ _ => True) (fun _ U o U' => ∃ v L, o = .returned v ∧ Qiw0 Z r0 wr h0 n0 v U'.heap L ∧ FrameEnd U o U' L ({ frames := 0, cells := 0, slots := 0, locals := 0 } : Room).cells ({ frames := 0, cells := 0, slots := 0, locals := 0 } : Room).slots) := by
  refine MetFree.of_bodySF (plainFor_of_name pn_12) hisR ?_
  intro p e s m args below meth c s₁ Bd hml0 hP hK
  obtain ⟨rfl, hZ, hh⟩ := hP
  have hx := Bd.exec
  have hby := Bd.bytes
  have hml : c.maxLocals = 1 := hml0
  have hown : s.vm.findClass "com/example/weighted_scheduler/weightedscheduler/RequestBody" = some m.cls := findClass_of_methodNamed Bd.named
  have hnm := (name_of_methodNamed Bd.named Bd.method).1
  have X0 : Stand p l e ({ frames := 0, cells := 0, slots := 0, locals := 0 } : Room) s m #[(.ref r0)] below meth c s₁ [] 0 0 := Stand.of_body Bd
  have e0 : s₁.heap = h0 := by rw [← hh, Bd.state]; rfl
  have N0 := Fr.nil n0
  refine own_go (B := s₁.setTop (mkF m 0 (LS_R r0) [])) (fun t k => castTop (ef_iw0 m r0) k) ?_
  refine own_go (B := s₁.setTop (mkF m 1 (LS_R r0) [(.ref r0)])) (fun t k => ?_) ?_
  · show Steps p.tables e below (s₁.setTop (mkF m 0 (LS_R r0) [])) _
    refine XS.aloadN X0.here hx rfl (hb hby d12_0) rfl rfl ?_
    exact k
  obtain ⟨T1, X1, e1, st1⟩ := getF X0 hx hZ hown (host := "") (Or.inl (hw _ (List.mem_of_getElem? (i := 115) rfl))) Via.refl e0 F0 (g := (mkF m 1 (LS_R r0) [(.ref r0)])) rfl rfl (hb hby d12_1)
  refine own_go (B := T1.setTop (mkF m 4 (LS_R r0) [(.ref wr)])) (fun t k => st1 _ k) ?_
  refine own_go (B := T1.setTop (mkF m 19 (LS_R r0) [(.int (0 : Int32))])) (fun t k => ?_) ?_
  · show Steps p.tables e below (T1.setTop (mkF m 4 (LS_R r0) [(.ref wr)])) _
    refine XS.ifnonnullYes X1.here hx rfl (pc0 := 4) (pc' := 18) rfl (hb hby d12_4) rfl (by decide) (by decide) ?_
    show Steps p.tables e below (T1.setTop (mkF m 18 (LS_R r0) [])) _
    refine XS.iconst X1.here hx rfl (hb hby d12_18) ?_
    exact k
  obtain ⟨fs, hr, hrun, hended, hW, hsame⟩ := X1.leave (v := some (.int (0 : Int32))) (fun h => by rw [Bd.returns] at h; cases h) (BodyLoose.notSynchronized Bd)
  refine ⟨_, _, ?_, hrun, hended, _, _, rfl, ?_, ⟨_, rfl⟩, hW, hsame.mono (by decide) (by decide)⟩
  · show Steps p.tables e below (T1.setTop (mkF m 19 (LS_R r0) [(.int (0 : Int32))])) _
    exact retN X1 hx (t := .boolean) Bd.returns (by simp) (hb hby d12_19) hr
  · show Qiw0 Z r0 wr h0 n0 _ T1.heap _
    rw [e1]
    exact ⟨rfl, N0, rfl⟩
theorem ef_rf0 (m : MethodId) (r0 : Addr) : entryFrame m #[(.ref r0), .null] 2 = mkF m 0 #[.val (.ref r0), .val .null] [] := by first | (simp [entryFrame, mkF, argsToLocals, Value.category]; done) | rfl
theorem pn_13 : plainName "com/example/weighted_scheduler/weightedscheduler/RequestBody" = true := by first | (simp [plainName, overriddenIn]; done) | decide +kernel
abbrev LS_Rn (a0 : Addr) : Array Slot := #[.val (.ref a0), .val .null]
theorem d13_0 : decode prog_44_method_6_code 0 = .ok (.aload_n 0, 1) := by decide +kernel
theorem d13_1 : decode prog_44_method_6_code 1 = .ok (.getfield 99, 3) := by decide +kernel
theorem d13_4 : decode prog_44_method_6_code 4 = .ok (.ifnonnull 8, 3) := by decide +kernel
theorem d13_7 : decode prog_44_method_6_code 7 = .ok (.aload_n 0, 1) := by decide +kernel
theorem d13_8 : decode prog_44_method_6_code 8 = .ok (.aload_n 1, 1) := by decide +kernel
theorem d13_9 : decode prog_44_method_6_code 9 = .ok (.putfield 99, 3) := by decide +kernel
theorem d13_12 : decode prog_44_method_6_code 12 = .ok (.return_, 1) := by decide +kernel
def Qrf0 (Z : State) (r0 : Addr) (h0 : Heap) (n0 : Nat) (v : Option Value) (h : Heap) (L : List Loc) : Prop := v = none ∧ Fr n0 L ∧ Keep h0 h [r0] ∧ Fld Z h r0 "com/example/weighted_scheduler/weightedscheduler/RequestBody" "refusal" "Lcom/example/weighted_scheduler/weightedscheduler/ApiError;" .null ∧ Fld Z h r0 "com/example/weighted_scheduler/weightedscheduler/RequestBody" "shortOfMemory" "Z" (.int (0 : Int32))
set_option maxRecDepth 65536 in
set_option maxHeartbeats 40000000 in
theorem rmrf0 (l : Launch) (Z : State) (a0 : Array Value) (hw : ∀ d ∈ tables_1, d.before a0 Z = true) (ws : List Jvm.Cond) (r0 : Addr) (h0 : Heap) (n0 : Nat) (Z0 : n0 ≤ h0.size) (E0 : Exa Z h0 r0 "com/example/weighted_scheduler/weightedscheduler/RequestBody") (F0 : Fld Z h0 r0 "com/example/weighted_scheduler/weightedscheduler/RequestBody" "refusal" "Lcom/example/weighted_scheduler/weightedscheduler/ApiError;" .null) (F1 : Fld Z h0 r0 "com/example/weighted_scheduler/weightedscheduler/RequestBody" "shortOfMemory" "Z" (.int (0 : Int32))) (g_r0 : n0 ≤ r0) :
    MetFree l (⟨"com/example/weighted_scheduler/weightedscheduler/RequestBody", "refuse", "(Lcom/example/weighted_scheduler/weightedscheduler/ApiError;)V"⟩ : MethodName) (head1 (Jvm.Cond.code (⟨"com/example/weighted_scheduler/weightedscheduler/RequestBody", "refuse", "(Lcom/example/weighted_scheduler/weightedscheduler/ApiError;)V"⟩ : MethodName) prog_44_method_6_code 2 none :: ws) ({ frames := 0, cells := 0, slots := 0, locals := 0 } : Room)) (fun a U => a = #[(.ref r0), .null] ∧ Z.Warmed39 U.vm ∧ U.heap = h0) (fun _ _ _ _ _ => True) (fun _ U o U' => ∃ v L, o = .returned v ∧ Qrf0 Z r0 h0 n0 v U'.heap L ∧ FrameEnd U o U' L ({ frames := 0, cells := 0, slots := 0, locals := 0 } : Room).cells ({ frames := 0, cells := 0, slots := 0, locals := 0 } : Room).slots) := by
  refine MetFree.of_bodySF (plainFor_of_name pn_13) hisR ?_
  intro p e s m args below meth c s₁ Bd hml0 hP hK
  obtain ⟨rfl, hZ, hh⟩ := hP
  have hx := Bd.exec
  have hby := Bd.bytes
  have hml : c.maxLocals = 2 := hml0
  have hown : s.vm.findClass "com/example/weighted_scheduler/weightedscheduler/RequestBody" = some m.cls := findClass_of_methodNamed Bd.named
  have hnm := (name_of_methodNamed Bd.named Bd.method).1
  have X0 : Stand p l e ({ frames := 0, cells := 0, slots := 0, locals := 0 } : Room) s m #[(.ref r0), .null] below meth c s₁ [] 0 0 := Stand.of_body Bd
  have e0 : s₁.heap = h0 := by rw [← hh, Bd.state]; rfl
  have N0 := Fr.nil n0
  refine own_go (B := s₁.setTop (mkF m 0 (LS_Rn r0) [])) (fun t k => castTop (ef_rf0 m r0) k) ?_
  have K0 : Keep h0 h0 [r0] := Keep.refl _ _
  refine own_go (B := s₁.setTop (mkF m 1 (LS_Rn r0) [(.ref r0)])) (fun t k => ?_) ?_
  · show Steps p.tables e below (s₁.setTop (mkF m 0 (LS_Rn r0) [])) _
    refine XS.aloadN X0.here hx rfl (hb hby d13_0) rfl rfl ?_
    exact k
  obtain ⟨T1, X1, e1, st1⟩ := getF X0 hx hZ hown (host := "") (Or.inl (hw _ (List.mem_of_getElem? (i := 115) rfl))) Via.refl e0 F0 (g := (mkF m 1 (LS_Rn r0) [(.ref r0)])) rfl rfl (hb hby d13_1)
  refine own_go (B := T1.setTop (mkF m 4 (LS_Rn r0) [.null])) (fun t k => st1 _ k) ?_
  refine own_go (B := T1.setTop (mkF m 9 (LS_Rn r0) [.null, (.ref r0)])) (fun t k => ?_) ?_
  · show Steps p.tables e below (T1.setTop (mkF m 4 (LS_Rn r0) [.null])) _
    refine XS.ifnonnullNo X1.here hx rfl (hb hby d13_4) rfl ?_
    show Steps p.tables e below (T1.setTop (mkF m 7 (LS_Rn r0) [])) _
    refine XS.aloadN X1.here hx rfl (hb hby d13_7) rfl rfl ?_
    show Steps p.tables e below (T1.setTop (mkF m 8 (LS_Rn r0) [(.ref r0)])) _
    refine XS.aloadN X1.here hx rfl (hb hby d13_8) rfl rfl ?_
    exact k
  obtain ⟨T2, h2, X2, e2, W2, st2⟩ := putF X1 hx hZ hown (host := "") (Or.inl (hw _ (List.mem_of_getElem? (i := 115) rfl))) Via.refl e1 F0 E0 (Or.inl (hw _ (List.mem_of_getElem? (i := 116) rfl))) (hw _ (List.mem_of_getElem? (i := 12) rfl)) (ty := (.object "com/example/weighted_scheduler/weightedscheduler/ApiError")) (by decide) rfl rfl (g := (mkF m 9 (LS_Rn r0) [.null, (.ref r0)])) rfl rfl (hb hby d13_9)
  have N2 := Fr.snoc X2 N0 g_r0
  have Fw2 := F0.same W2
  refine own_go (B := T2.setTop (mkF m 12 (LS_Rn r0) [])) (fun t k => st2 _ k) ?_
  obtain ⟨fs, hr, hrun, hended, hW, hsame⟩ := X2.leave (v := none) (fun _ => rfl) (BodyLoose.notSynchronized Bd)
  refine ⟨_, _, ?_, hrun, hended, _, _, rfl, ?_, ⟨_, rfl⟩, hW, hsame.mono (by decide) (by decide)⟩
  · show Steps p.tables e below (T2.setTop (mkF m 12 (LS_Rn r0) [])) _
    exact X2.returnOut hx Bd.returns (hb hby d13_12) hr
  · show Qrf0 Z r0 h0 n0 _ T2.heap _
    rw [e2]
    have K0_v3 := K0.wr W2 (Or.inl (List.mem_of_getElem? (i := 0) rfl))
    have F1_v4 := F1.other W2 (Or.inr (slot_ne (Or.inl (hw _ (List.mem_of_getElem? (i := 118) rfl))) (Or.inl (hw _ (List.mem_of_getElem? (i := 116) rfl))) (by decide) (t := .boolean) (t' := (.object "com/example/weighted_scheduler/weightedscheduler/ApiError")) (by decide) (by decide)))
    exact ⟨rfl, N2, K0_v3, Fw2, F1_v4⟩
theorem ef_rf1 (m : MethodId) (r0 : Addr) (r1 : Addr) : entryFrame m #[(.ref r0), (.ref r1)] 2 = mkF m 0 #[.val (.ref r0), .val (.ref r1)] [] := by first | (simp [entryFrame, mkF, argsToLocals, Value.category]; done) | rfl
abbrev LS_RR (a0 : Addr) (a1 : Addr) : Array Slot := #[.val (.ref a0), .val (.ref a1)]
def Qrf1 (Z : State) (r0 : Addr) (r1 : Addr) (h0 : Heap) (n0 : Nat) (v : Option Value) (h : Heap) (L : List Loc) : Prop := v = none ∧ Fr n0 L ∧ Keep h0 h [r0] ∧ Fld Z h r0 "com/example/weighted_scheduler/weightedscheduler/RequestBody" "refusal" "Lcom/example/weighted_scheduler/weightedscheduler/ApiError;" (.ref r1) ∧ Fld Z h r0 "com/example/weighted_scheduler/weightedscheduler/RequestBody" "shortOfMemory" "Z" (.int (0 : Int32))
set_option maxRecDepth 65536 in
set_option maxHeartbeats 40000000 in
theorem rmrf1 (l : Launch) (Z : State) (a0 : Array Value) (hw : ∀ d ∈ tables_1, d.before a0 Z = true) (ws : List Jvm.Cond) (r0 : Addr) (r1 : Addr) (h0 : Heap) (n0 : Nat) (Z0 : n0 ≤ h0.size) (E0 : Exa Z h0 r0 "com/example/weighted_scheduler/weightedscheduler/RequestBody") (F0 : Fld Z h0 r0 "com/example/weighted_scheduler/weightedscheduler/RequestBody" "refusal" "Lcom/example/weighted_scheduler/weightedscheduler/ApiError;" .null) (F1 : Fld Z h0 r0 "com/example/weighted_scheduler/weightedscheduler/RequestBody" "shortOfMemory" "Z" (.int (0 : Int32))) (g_r0 : n0 ≤ r0) :
    MetFree l (⟨"com/example/weighted_scheduler/weightedscheduler/RequestBody", "refuse", "(Lcom/example/weighted_scheduler/weightedscheduler/ApiError;)V"⟩ : MethodName) (head1 (Jvm.Cond.code (⟨"com/example/weighted_scheduler/weightedscheduler/RequestBody", "refuse", "(Lcom/example/weighted_scheduler/weightedscheduler/ApiError;)V"⟩ : MethodName) prog_44_method_6_code 2 none :: ws) ({ frames := 0, cells := 0, slots := 0, locals := 0 } : Room)) (fun a U => a = #[(.ref r0), (.ref r1)] ∧ Z.Warmed39 U.vm ∧ U.heap = h0) (fun _ _ _ _ _ => True) (fun _ U o U' => ∃ v L, o = .returned v ∧ Qrf1 Z r0 r1 h0 n0 v U'.heap L ∧ FrameEnd U o U' L ({ frames := 0, cells := 0, slots := 0, locals := 0 } : Room).cells ({ frames := 0, cells := 0, slots := 0, locals := 0 } : Room).slots) := by
  refine MetFree.of_bodySF (plainFor_of_name pn_13) hisR ?_
  intro p e s m args below meth c s₁ Bd hml0 hP hK
  obtain ⟨rfl, hZ, hh⟩ := hP
  have hx := Bd.exec
  have hby := Bd.bytes
  have hml : c.maxLocals = 2 := hml0
  have hown : s.vm.findClass "com/example/weighted_scheduler/weightedscheduler/RequestBody" = some m.cls := findClass_of_methodNamed Bd.named
  have hnm := (name_of_methodNamed Bd.named Bd.method).1
  have X0 : Stand p l e ({ frames := 0, cells := 0, slots := 0, locals := 0 } : Room) s m #[(.ref r0), (.ref r1)] below meth c s₁ [] 0 0 := Stand.of_body Bd
  have e0 : s₁.heap = h0 := by rw [← hh, Bd.state]; rfl
  have N0 := Fr.nil n0
  refine own_go (B := s₁.setTop (mkF m 0 (LS_RR r0 r1) [])) (fun t k => castTop (ef_rf1 m r0 r1) k) ?_
  have K0 : Keep h0 h0 [r0] := Keep.refl _ _
  refine own_go (B := s₁.setTop (mkF m 1 (LS_RR r0 r1) [(.ref r0)])) (fun t k => ?_) ?_
  · show Steps p.tables e below (s₁.setTop (mkF m 0 (LS_RR r0 r1) [])) _
    refine XS.aloadN X0.here hx rfl (hb hby d13_0) rfl rfl ?_
    exact k
  obtain ⟨T1, X1, e1, st1⟩ := getF X0 hx hZ hown (host := "") (Or.inl (hw _ (List.mem_of_getElem? (i := 115) rfl))) Via.refl e0 F0 (g := (mkF m 1 (LS_RR r0 r1) [(.ref r0)])) rfl rfl (hb hby d13_1)
  refine own_go (B := T1.setTop (mkF m 4 (LS_RR r0 r1) [.null])) (fun t k => st1 _ k) ?_
  refine own_go (B := T1.setTop (mkF m 9 (LS_RR r0 r1) [(.ref r1), (.ref r0)])) (fun t k => ?_) ?_
  · show Steps p.tables e below (T1.setTop (mkF m 4 (LS_RR r0 r1) [.null])) _
    refine XS.ifnonnullNo X1.here hx rfl (hb hby d13_4) rfl ?_
    show Steps p.tables e below (T1.setTop (mkF m 7 (LS_RR r0 r1) [])) _
    refine XS.aloadN X1.here hx rfl (hb hby d13_7) rfl rfl ?_
    show Steps p.tables e below (T1.setTop (mkF m 8 (LS_RR r0 r1) [(.ref r0)])) _
    refine XS.aloadN X1.here hx rfl (hb hby d13_8) rfl rfl ?_
    exact k
  obtain ⟨T2, h2, X2, e2, W2, st2⟩ := putF X1 hx hZ hown (host := "") (Or.inl (hw _ (List.mem_of_getElem? (i := 115) rfl))) Via.refl e1 F0 E0 (Or.inl (hw _ (List.mem_of_getElem? (i := 116) rfl))) (hw _ (List.mem_of_getElem? (i := 12) rfl)) (ty := (.object "com/example/weighted_scheduler/weightedscheduler/ApiError")) (by decide) rfl rfl (g := (mkF m 9 (LS_RR r0 r1) [(.ref r1), (.ref r0)])) rfl rfl (hb hby d13_9)
  have N2 := Fr.snoc X2 N0 g_r0
  have Fw2 := F0.same W2
  refine own_go (B := T2.setTop (mkF m 12 (LS_RR r0 r1) [])) (fun t k => st2 _ k) ?_
  obtain ⟨fs, hr, hrun, hended, hW, hsame⟩ := X2.leave (v := none) (fun _ => rfl) (BodyLoose.notSynchronized Bd)
  refine ⟨_, _, ?_, hrun, hended, _, _, rfl, ?_, ⟨_, rfl⟩, hW, hsame.mono (by decide) (by decide)⟩
  · show Steps p.tables e below (T2.setTop (mkF m 12 (LS_RR r0 r1) [])) _
    exact X2.returnOut hx Bd.returns (hb hby d13_12) hr
  · show Qrf1 Z r0 r1 h0 n0 _ T2.heap _
    rw [e2]
    have K0_v3 := K0.wr W2 (Or.inl (List.mem_of_getElem? (i := 0) rfl))
    have F1_v4 := F1.other W2 (Or.inr (slot_ne (Or.inl (hw _ (List.mem_of_getElem? (i := 118) rfl))) (Or.inl (hw _ (List.mem_of_getElem? (i := 116) rfl))) (by decide) (t := .boolean) (t' := (.object "com/example/weighted_scheduler/weightedscheduler/ApiError")) (by decide) (by decide)))
    exact ⟨rfl, N2, K0_v3, Fw2, F1_v4⟩
theorem ef_rf2 (m : MethodId) (r0 : Addr) : entryFrame m #[(.ref r0), .null] 2 = mkF m 0 #[.val (.ref r0), .val .null] [] := by first | (simp [entryFrame, mkF, argsToLocals, Value.category]; done) | rfl
def Qrf2 (Z : State) (r0 : Addr) (wr : Addr) (h0 : Heap) (n0 : Nat) (v : Option Value) (h : Heap) (L : List Loc) : Prop := v = none ∧ Fr n0 L ∧ h = h0
set_option maxRecDepth 65536 in
set_option maxHeartbeats 40000000 in
theorem rmrf2 (l : Launch) (Z : State) (a0 : Array Value) (hw : ∀ d ∈ tables_1, d.before a0 Z = true) (ws : List Jvm.Cond) (r0 : Addr) (wr : Addr) (h0 : Heap) (n0 : Nat) (Z0 : n0 ≤ h0.size) (F0 : Fld Z h0 r0 "com/example/weighted_scheduler/weightedscheduler/RequestBody" "refusal" "Lcom/example/weighted_scheduler/weightedscheduler/ApiError;" (.ref wr)) :
    MetFree l (⟨"com/example/weighted_scheduler/weightedscheduler/RequestBody", "refuse", "(Lcom/example/weighted_scheduler/weightedscheduler/ApiError;)V"⟩ : MethodName) (head1 (Jvm.Cond.code (⟨"com/example/weighted_scheduler/weightedscheduler/RequestBody", "refuse", "(Lcom/example/weighted_scheduler/weightedscheduler/ApiError;)V"⟩ : MethodName) prog_44_method_6_code 2 none :: ws) ({ frames := 0, cells := 0, slots := 0, locals := 0 } : Room)) (fun a U => a = #[(.ref r0), .null] ∧ Z.Warmed39 U.vm ∧ U.heap = h0) (fun _ _ _ _ _ => True) (fun _ U o U' => ∃ v L, o = .returned v ∧ Qrf2 Z r0 wr h0 n0 v U'.heap L ∧ FrameEnd U o U' L ({ frames := 0, cells := 0, slots := 0, locals := 0 } : Room).cells ({ frames := 0, cells := 0, slots := 0, locals := 0 } : Room).slots) := by
  refine MetFree.of_bodySF (plainFor_of_name pn_13) hisR ?_
  intro p e s m args below meth c s₁ Bd hml0 hP hK
  obtain ⟨rfl, hZ, hh⟩ := hP
  have hx := Bd.exec
  have hby := Bd.bytes
  have hml : c.maxLocals = 2 := hml0
  have hown : s.vm.findClass "com/example/weighted_scheduler/weightedscheduler/RequestBody" = some m.cls := findClass_of_methodNamed Bd.named
  have hnm := (name_of_methodNamed Bd.named Bd.method).1
  have X0 : Stand p l e ({ frames := 0, cells := 0, slots := 0, locals := 0 } : Room) s m #[(.ref r0), .null] below meth c s₁ [] 0 0 := Stand.of_body Bd
  have e0 : s₁.heap = h0 := by rw [← hh, Bd.state]; rfl
  have N0 := Fr.nil n0
  refine own_go (B := s₁.setTop (mkF m 0 (LS_Rn r0) [])) (fun t k => castTop (ef_rf2 m r0) k) ?_
  refine own_go (B := s₁.setTop (mkF m 1 (LS_Rn r0) [(.ref r0)])) (fun t k => ?_) ?_
  · show Steps p.tables e below (s₁.setTop (mkF m 0 (LS_Rn r0) [])) _
    refine XS.aloadN X0.here hx rfl (hb hby d13_0) rfl rfl ?_
    exact k
  obtain ⟨T1, X1, e1, st1⟩ := getF X0 hx hZ hown (host := "") (Or.inl (hw _ (List.mem_of_getElem? (i := 115) rfl))) Via.refl e0 F0 (g := (mkF m 1 (LS_Rn r0) [(.ref r0)])) rfl rfl (hb hby d13_1)
  refine own_go (B := T1.setTop (mkF m 4 (LS_Rn r0) [(.ref wr)])) (fun t k => st1 _ k) ?_
  refine own_go (B := T1.setTop (mkF m 12 (LS_Rn r0) [])) (fun t k => ?_) ?_
  · show Steps p.tables e below (T1.setTop (mkF m 4 (LS_Rn r0) [(.ref wr)])) _
    refine XS.ifnonnullYes X1.here hx rfl (pc0 := 4) (pc' := 12) rfl (hb hby d13_4) rfl (by decide) (by decide) ?_
    exact k
  obtain ⟨fs, hr, hrun, hended, hW, hsame⟩ := X1.leave (v := none) (fun _ => rfl) (BodyLoose.notSynchronized Bd)
  refine ⟨_, _, ?_, hrun, hended, _, _, rfl, ?_, ⟨_, rfl⟩, hW, hsame.mono (by decide) (by decide)⟩
  · show Steps p.tables e below (T1.setTop (mkF m 12 (LS_Rn r0) [])) _
    exact X1.returnOut hx Bd.returns (hb hby d13_12) hr
  · show Qrf2 Z r0 wr h0 n0 _ T1.heap _
    rw [e1]
    exact ⟨rfl, N0, rfl⟩
theorem ef_rf3 (m : MethodId) (r0 : Addr) (r1 : Addr) : entryFrame m #[(.ref r0), (.ref r1)] 2 = mkF m 0 #[.val (.ref r0), .val (.ref r1)] [] := by first | (simp [entryFrame, mkF, argsToLocals, Value.category]; done) | rfl
def Qrf3 (Z : State) (r0 : Addr) (r1 : Addr) (wr : Addr) (h0 : Heap) (n0 : Nat) (v : Option Value) (h : Heap) (L : List Loc) : Prop := v = none ∧ Fr n0 L ∧ h = h0
set_option maxRecDepth 65536 in
set_option maxHeartbeats 40000000 in
theorem rmrf3 (l : Launch) (Z : State) (a0 : Array Value) (hw : ∀ d ∈ tables_1, d.before a0 Z = true) (ws : List Jvm.Cond) (r0 : Addr) (r1 : Addr) (wr : Addr) (h0 : Heap) (n0 : Nat) (Z0 : n0 ≤ h0.size) (F0 : Fld Z h0 r0 "com/example/weighted_scheduler/weightedscheduler/RequestBody" "refusal" "Lcom/example/weighted_scheduler/weightedscheduler/ApiError;" (.ref wr)) :
    MetFree l (⟨"com/example/weighted_scheduler/weightedscheduler/RequestBody", "refuse", "(Lcom/example/weighted_scheduler/weightedscheduler/ApiError;)V"⟩ : MethodName) (head1 (Jvm.Cond.code (⟨"com/example/weighted_scheduler/weightedscheduler/RequestBody", "refuse", "(Lcom/example/weighted_scheduler/weightedscheduler/ApiError;)V"⟩ : MethodName) prog_44_method_6_code 2 none :: ws) ({ frames := 0, cells := 0, slots := 0, locals := 0 } : Room)) (fun a U => a = #[(.ref r0), (.ref r1)] ∧ Z.Warmed39 U.vm ∧ U.heap = h0) (fun _ _ _ _ _ => True) (fun _ U o U' => ∃ v L, o = .returned v ∧ Qrf3 Z r0 r1 wr h0 n0 v U'.heap L ∧ FrameEnd U o U' L ({ frames := 0, cells := 0, slots := 0, locals := 0 } : Room).cells ({ frames := 0, cells := 0, slots := 0, locals := 0 } : Room).slots) := by
  refine MetFree.of_bodySF (plainFor_of_name pn_13) hisR ?_
  intro p e s m args below meth c s₁ Bd hml0 hP hK
  obtain ⟨rfl, hZ, hh⟩ := hP
  have hx := Bd.exec
  have hby := Bd.bytes
  have hml : c.maxLocals = 2 := hml0
  have hown : s.vm.findClass "com/example/weighted_scheduler/weightedscheduler/RequestBody" = some m.cls := findClass_of_methodNamed Bd.named
  have hnm := (name_of_methodNamed Bd.named Bd.method).1
  have X0 : Stand p l e ({ frames := 0, cells := 0, slots := 0, locals := 0 } : Room) s m #[(.ref r0), (.ref r1)] below meth c s₁ [] 0 0 := Stand.of_body Bd
  have e0 : s₁.heap = h0 := by rw [← hh, Bd.state]; rfl
  have N0 := Fr.nil n0
  refine own_go (B := s₁.setTop (mkF m 0 (LS_RR r0 r1) [])) (fun t k => castTop (ef_rf3 m r0 r1) k) ?_
  refine own_go (B := s₁.setTop (mkF m 1 (LS_RR r0 r1) [(.ref r0)])) (fun t k => ?_) ?_
  · show Steps p.tables e below (s₁.setTop (mkF m 0 (LS_RR r0 r1) [])) _
    refine XS.aloadN X0.here hx rfl (hb hby d13_0) rfl rfl ?_
    exact k
  obtain ⟨T1, X1, e1, st1⟩ := getF X0 hx hZ hown (host := "") (Or.inl (hw _ (List.mem_of_getElem? (i := 115) rfl))) Via.refl e0 F0 (g := (mkF m 1 (LS_RR r0 r1) [(.ref r0)])) rfl rfl (hb hby d13_1)
  refine own_go (B := T1.setTop (mkF m 4 (LS_RR r0 r1) [(.ref wr)])) (fun t k => st1 _ k) ?_
  refine own_go (B := T1.setTop (mkF m 12 (LS_RR r0 r1) [])) (fun t k => ?_) ?_
  · show Steps p.tables e below (T1.setTop (mkF m 4 (LS_RR r0 r1) [(.ref wr)])) _
    refine XS.ifnonnullYes X1.here hx rfl (pc0 := 4) (pc' := 12) rfl (hb hby d13_4) rfl (by decide) (by decide) ?_
    exact k
  obtain ⟨fs, hr, hrun, hended, hW, hsame⟩ := X1.leave (v := none) (fun _ => rfl) (BodyLoose.notSynchronized Bd)
  refine ⟨_, _, ?_, hrun, hended, _, _, rfl, ?_, ⟨_, rfl⟩, hW, hsame.mono (by decide) (by decide)⟩
  · show Steps p.tables e below (T1.setTop (mkF m 12 (LS_RR r0 r1) [])) _
    exact X1.returnOut hx Bd.returns (hb hby d13_12) hr
  · show Qrf3 Z r0 r1 wr h0 n0 _ T1.heap _
    rw [e1]
    exact ⟨rfl, N0, rfl⟩
theorem ef_mof (m : MethodId)  : entryFrame m #[] 0 = mkF m 0 #[] [] := by first | (simp [entryFrame, mkF, argsToLocals, Value.category]; done) | rfl
theorem pn_5 : plainName "java/util/Map" = true := by first | (simp [plainName, overriddenIn]; done) | decide +kernel
abbrev LS_  : Array Slot := #[]
theorem d5_0 : decode jdk_72_method_26_code 0 = .ok (.getstatic 81, 3) := by decide +kernel
theorem d5_3 : decode jdk_72_method_26_code 3 = .ok (.areturn, 1) := by decide +kernel
def Qmof (Z : State) (wm : Addr) (h0 : Heap) (n0 : Nat) (v : Option Value) (h : Heap) (L : List Loc) : Prop := v = some (.ref wm) ∧ Fr n0 L ∧ h = h0
set_option maxRecDepth 65536 in
set_option maxHeartbeats 40000000 in
theorem rmmof (l : Launch) (Z : State) (a0 : Array Value) (hw : ∀ d ∈ tables_1, d.before a0 Z = true) (ws : List Jvm.Cond) (wm : Addr) (h0 : Heap) (n0 : Nat) (Z0 : n0 ≤ h0.size) (SM : Sta Z h0 "java/util/ImmutableCollections" "EMPTY_MAP" "Ljava/util/ImmutableCollections$MapN;" (.ref wm)) :
    MetFree l (⟨"java/util/Map", "of", "()Ljava/util/Map;"⟩ : MethodName) (head1 (Jvm.Cond.code (⟨"java/util/Map", "of", "()Ljava/util/Map;"⟩ : MethodName) jdk_72_method_26_code 0 (some (.object "java/util/Map")) :: ws) ({ frames := 0, cells := 0, slots := 0, locals := 0 } : Room)) (fun a U => a = #[] ∧ Z.Warmed39 U.vm ∧ U.heap = h0) (fun _ _ _ _ _ => True) (fun _ U o U' => ∃ v L, o = .returned v ∧ Qmof Z wm h0 n0 v U'.heap L ∧ FrameEnd U o U' L ({ frames := 0, cells := 0, slots := 0, locals := 0 } : Room).cells ({ frames := 0, cells := 0, slots := 0, locals := 0 } : Room).slots) := by
  refine MetFree.of_bodySF (plainFor_of_name pn_5) hisR ?_
  intro p e s m args below meth c s₁ Bd hml0 hP hK
  obtain ⟨rfl, hZ, hh⟩ := hP
  have hx := Bd.exec
  have hby := Bd.bytes
  have hml : c.maxLocals = 0 := hml0
  have hown : s.vm.findClass "java/util/Map" = some m.cls := findClass_of_methodNamed Bd.named
  have hnm := (name_of_methodNamed Bd.named Bd.method).1
  have X0 : Stand p l e ({ frames := 0, cells := 0, slots := 0, locals := 0 } : Room) s m #[] below meth c s₁ [] 0 0 := Stand.of_body Bd
  have e0 : s₁.heap = h0 := by rw [← hh, Bd.state]; rfl
  have N0 := Fr.nil n0
  refine own_go (B := s₁.setTop (mkF m 0 LS_ [])) (fun t k => castTop (ef_mof m ) k) ?_
  obtain ⟨T1, X1, e1, st1⟩ := getS2 X0 hx hZ hown (host := "") (Or.inl (hw _ (List.mem_of_getElem? (i := 45) rfl))) Via.refl e0 SM (g := (mkF m 0 LS_ [])) rfl (hb hby d5_0)
  refine own_go (B := T1.setTop (mkF m 3 LS_ [(.ref wm)])) (fun t k => st1 _ k) ?_
  obtain ⟨fs, hr, hrun, hended, hW, hsame⟩ := X1.leave (v := some (.ref wm)) (fun h => by rw [Bd.returns] at h; cases h) (BodyLoose.notSynchronized Bd)
  refine ⟨_, _, ?_, hrun, hended, _, _, rfl, ?_, ⟨_, rfl⟩, hW, hsame.mono (by decide) (by decide)⟩
  · show Steps p.tables e below (T1.setTop (mkF m 3 LS_ [(.ref wm)])) _
    exact retOut X1 hx Bd.returns rfl (Or.inr (Or.inr (Or.inr (Or.inr ⟨rfl, rfl, rfl⟩)))) (hb hby d5_3) hr
  · show Qmof Z wm h0 n0 _ T1.heap _
    rw [e1]
    exact ⟨rfl, N0, rfl⟩
theorem ef_thr (m : MethodId) (r0 : Addr) (r1 : Addr) : entryFrame m #[(.ref r0), (.ref r1)] 2 = mkF m 0 #[.val (.ref r0), .val (.ref r1)] [] := by first | (simp [entryFrame, mkF, argsToLocals, Value.category]; done) | rfl
theorem pn_9 : plainName "java/lang/Throwable" = true := by first | (simp [plainName, overriddenIn]; done) | decide +kernel
theorem d9_0 : decode jdk_78_method_2_code 0 = .ok (.aload_n 0, 1) := by decide +kernel
theorem d9_1 : decode jdk_78_method_2_code 1 = .ok (.invokespecial 1, 3) := by decide +kernel
theorem d9_4 : decode jdk_78_method_2_code 4 = .ok (.aload_n 0, 1) := by decide +kernel
theorem d9_5 : decode jdk_78_method_2_code 5 = .ok (.aload_n 0, 1) := by decide +kernel
theorem d9_6 : decode jdk_78_method_2_code 6 = .ok (.putfield 7, 3) := by decide +kernel
theorem d9_9 : decode jdk_78_method_2_code 9 = .ok (.aload_n 0, 1) := by decide +kernel
theorem d9_10 : decode jdk_78_method_2_code 10 = .ok (.getstatic 13, 3) := by decide +kernel
theorem d9_13 : decode jdk_78_method_2_code 13 = .ok (.putfield 17, 3) := by decide +kernel
theorem d9_16 : decode jdk_78_method_2_code 16 = .ok (.aload_n 0, 1) := by decide +kernel
theorem d9_17 : decode jdk_78_method_2_code 17 = .ok (.getstatic 20, 3) := by decide +kernel
theorem d9_20 : decode jdk_78_method_2_code 20 = .ok (.putfield 24, 3) := by decide +kernel
theorem d9_23 : decode jdk_78_method_2_code 23 = .ok (.aload_n 0, 1) := by decide +kernel
theorem d9_24 : decode jdk_78_method_2_code 24 = .ok (.invokevirtual 27, 3) := by decide +kernel
theorem d9_27 : decode jdk_78_method_2_code 27 = .ok (.pop, 1) := by decide +kernel
theorem d9_28 : decode jdk_78_method_2_code 28 = .ok (.aload_n 0, 1) := by decide +kernel
theorem d9_29 : decode jdk_78_method_2_code 29 = .ok (.aload_n 1, 1) := by decide +kernel
theorem d9_30 : decode jdk_78_method_2_code 30 = .ok (.putfield 31, 3) := by decide +kernel
theorem d9_33 : decode jdk_78_method_2_code 33 = .ok (.return_, 1) := by decide +kernel
def Qthr (Z : State) (r0 : Addr) (r1 : Addr) (uu sn : Addr) (h0 : Heap) (n0 : Nat) (v : Option Value) (h : Heap) (L : List Loc) : Prop := v = none ∧ Fr n0 L ∧ Keep h0 h [r0]
set_option maxRecDepth 65536 in
set_option maxHeartbeats 40000000 in
theorem rmthr (l : Launch) (Z : State) (a0 : Array Value) (hw : ∀ d ∈ tables_1, d.before a0 Z = true) (ws : List Jvm.Cond) (r0 : Addr) (r1 : Addr) (uu sn : Addr) (h0 : Heap) (n0 : Nat) (Z0 : n0 ≤ h0.size) (E0 : Exa Z h0 r0 "com/example/weighted_scheduler/weightedscheduler/ApiError") (U0 : Unt h0 r0) (FB : Fld Z h0 r0 "java/lang/Throwable" "backtrace" "Ljava/lang/Object;" .null) (SU : Sta Z h0 "java/lang/Throwable" "UNASSIGNED_STACK" "[Ljava/lang/StackTraceElement;" (.ref uu)) (SS : Sta Z h0 "java/lang/Throwable" "SUPPRESSED_SENTINEL" "Ljava/util/List;" (.ref sn)) (g_r0 : n0 ≤ r0) (hl : l.flags = pinnedFlags) :
    MetFree l (⟨"java/lang/Throwable", "<init>", "(Ljava/lang/String;)V"⟩ : MethodName) (head1 (Jvm.Cond.code (⟨"java/lang/Throwable", "<init>", "(Ljava/lang/String;)V"⟩ : MethodName) jdk_78_method_2_code 2 none :: ws) ({ frames := 3, cells := 1, slots := 2752, locals := 42 } : Room)) (fun a U => a = #[(.ref r0), (.ref r1)] ∧ Z.Warmed39 U.vm ∧ U.heap = h0) (fun _ _ bl s _ => s.vm.MethodsKnown ∧ s.vm.FramesKnown bl) (fun _ U o U' => ∃ v L, o = .returned v ∧ Qthr Z r0 r1 uu sn h0 n0 v U'.heap L ∧ FrameEnd U o U' L ({ frames := 3, cells := 1, slots := 2752, locals := 42 } : Room).cells ({ frames := 3, cells := 1, slots := 2752, locals := 42 } : Room).slots) := by
  refine MetFree.of_bodySF (plainFor_of_name pn_9) hisR ?_
  intro p e s m args below meth c s₁ Bd hml0 hP hK
  obtain ⟨rfl, hZ, hh⟩ := hP
  have hx := Bd.exec
  have hby := Bd.bytes
  have hml : c.maxLocals = 2 := hml0
  have hown : s.vm.findClass "java/lang/Throwable" = some m.cls := findClass_of_methodNamed Bd.named
  have hnm := (name_of_methodNamed Bd.named Bd.method).1
  have X0 : Stand p l e ({ frames := 3, cells := 1, slots := 2752, locals := 42 } : Room) s m #[(.ref r0), (.ref r1)] below meth c s₁ [] 0 0 := Stand.of_body Bd
  have e0 : s₁.heap = h0 := by rw [← hh, Bd.state]; rfl
  have N0 := Fr.nil n0
  refine own_go (B := s₁.setTop (mkF m 0 (LS_RR r0 r1) [])) (fun t k => castTop (ef_thr m r0 r1) k) ?_
  have K0 : Keep h0 h0 [r0] := Keep.refl _ _
  obtain ⟨v1_cause, F1_cause⟩ := fld_laid (O := "java/lang/Throwable") (n := "cause") (d := "Ljava/lang/Throwable;") E0 U0.known (hw _ (List.mem_of_getElem? (i := 29) rfl)) (Or.inl (hw _ (List.mem_of_getElem? (i := 69) rfl)))
  obtain ⟨v2_stackTrace, F2_stackTrace⟩ := fld_laid (O := "java/lang/Throwable") (n := "stackTrace") (d := "[Ljava/lang/StackTraceElement;") E0 U0.known (hw _ (List.mem_of_getElem? (i := 29) rfl)) (Or.inl (hw _ (List.mem_of_getElem? (i := 72) rfl)))
  obtain ⟨v3_suppressedExceptions, F3_suppressedExceptions⟩ := fld_laid (O := "java/lang/Throwable") (n := "suppressedExceptions") (d := "Ljava/util/List;") E0 U0.known (hw _ (List.mem_of_getElem? (i := 29) rfl)) (Or.inl (hw _ (List.mem_of_getElem? (i := 75) rfl)))
  refine own_go (B := s₁.setTop (mkF m 1 (LS_RR r0 r1) [(.ref r0)])) (fun t k => ?_) ?_
  · show Steps p.tables e below (s₁.setTop (mkF m 0 (LS_RR r0 r1) [])) _
    refine XS.aloadN X0.here hx rfl (hb hby d9_0) rfl rfl ?_
    exact k
  obtain ⟨T4, X4, e4, st4⟩ := initO X0 hx hZ hown (hw _ (List.mem_of_getElem? (i := 67) rfl)) (hw _ (List.mem_of_getElem? (i := 7) rfl)) (hw _ (List.mem_of_getElem? (i := 8) rfl)) e0 (g := (mkF m 1 (LS_RR r0 r1) [(.ref r0)])) rfl (by rw [hml]; rfl) rfl (hb hby d9_1) (by decide) (W := 0) (by show 2 * 0 + _ ≤ _; exact Nat.le_of_eq rfl) (by decide)
  refine own_go (B := T4.setTop (mkF m 4 (LS_RR r0 r1) [])) (fun t k => st4 _ k) ?_
  refine own_go (B := T4.setTop (mkF m 6 (LS_RR r0 r1) [(.ref r0), (.ref r0)])) (fun t k => ?_) ?_
  · show Steps p.tables e below (T4.setTop (mkF m 4 (LS_RR r0 r1) [])) _
    refine XS.aloadN X4.here hx rfl (hb hby d9_4) rfl rfl ?_
    show Steps p.tables e below (T4.setTop (mkF m 5 (LS_RR r0 r1) [(.ref r0)])) _
    refine XS.aloadN X4.here hx rfl (hb hby d9_5) rfl rfl ?_
    exact k
  obtain ⟨T5, h5, X5, e5, W5, st5⟩ := putF X4 hx hZ hown (host := "") (Or.inl (hw _ (List.mem_of_getElem? (i := 68) rfl))) Via.refl e4 F1_cause E0 (Or.inl (hw _ (List.mem_of_getElem? (i := 69) rfl))) (hw _ (List.mem_of_getElem? (i := 29) rfl)) (ty := (.object "java/lang/Throwable")) (by decide) rfl rfl (g := (mkF m 6 (LS_RR r0 r1) [(.ref r0), (.ref r0)])) rfl rfl (hb hby d9_6)
  have N5 := Fr.snoc X5 N0 g_r0
  have On5 := own_on_snoc X5 (own_on_nil r0)
  have Fw5 := F1_cause.same W5
  refine own_go (B := T5.setTop (mkF m 9 (LS_RR r0 r1) [])) (fun t k => st5 _ k) ?_
  have SU_v6 := SU.wr W5
  refine own_go (B := T5.setTop (mkF m 10 (LS_RR r0 r1) [(.ref r0)])) (fun t k => ?_) ?_
  · show Steps p.tables e below (T5.setTop (mkF m 9 (LS_RR r0 r1) [])) _
    refine XS.aloadN X5.here hx rfl (hb hby d9_9) rfl rfl ?_
    exact k
  obtain ⟨T7, X7, e7, st7⟩ := getS2 X5 hx hZ hown (host := "") (Or.inl (hw _ (List.mem_of_getElem? (i := 70) rfl))) Via.refl e5 SU_v6 (g := (mkF m 10 (LS_RR r0 r1) [(.ref r0)])) rfl (hb hby d9_10)
  refine own_go (B := T7.setTop (mkF m 13 (LS_RR r0 r1) [(.ref uu), (.ref r0)])) (fun t k => st7 _ k) ?_
  have E0_v8 := E0.wr W5
  have F2_stackTrace_v9 := F2_stackTrace.other W5 (Or.inr (slot_ne (Or.inl (hw _ (List.mem_of_getElem? (i := 72) rfl))) (Or.inl (hw _ (List.mem_of_getElem? (i := 69) rfl))) (by decide) (t := (.array (.object "java/lang/StackTraceElement"))) (t' := (.object "java/lang/Throwable")) (by decide) (by decide)))
  obtain ⟨T10, h10, X10, e10, W10, st10⟩ := putF X7 hx hZ hown (host := "") (Or.inl (hw _ (List.mem_of_getElem? (i := 71) rfl))) Via.refl e7 F2_stackTrace_v9 E0_v8 (Or.inl (hw _ (List.mem_of_getElem? (i := 72) rfl))) (hw _ (List.mem_of_getElem? (i := 29) rfl)) (ty := (.array (.object "java/lang/StackTraceElement"))) (by decide) rfl rfl (g := (mkF m 13 (LS_RR r0 r1) [(.ref uu), (.ref r0)])) rfl rfl (hb hby d9_13)
  have N10 := Fr.snoc X10 N5 g_r0
  have On10 := own_on_snoc X10 On5
  have Fw10 := F2_stackTrace_v9.same W10
  refine own_go (B := T10.setTop (mkF m 16 (LS_RR r0 r1) [])) (fun t k => st10 _ k) ?_
  have SS_v11 := SS.wr W5
  have SS_v12 := SS_v11.wr W10
  refine own_go (B := T10.setTop (mkF m 17 (LS_RR r0 r1) [(.ref r0)])) (fun t k => ?_) ?_
  · show Steps p.tables e below (T10.setTop (mkF m 16 (LS_RR r0 r1) [])) _
    refine XS.aloadN X10.here hx rfl (hb hby d9_16) rfl rfl ?_
    exact k
  obtain ⟨T13, X13, e13, st13⟩ := getS2 X10 hx hZ hown (host := "") (Or.inl (hw _ (List.mem_of_getElem? (i := 73) rfl))) Via.refl e10 SS_v12 (g := (mkF m 17 (LS_RR r0 r1) [(.ref r0)])) rfl (hb hby d9_17)
  refine own_go (B := T13.setTop (mkF m 20 (LS_RR r0 r1) [(.ref sn), (.ref r0)])) (fun t k => st13 _ k) ?_
  have E0_v14 := E0_v8.wr W10
  have F3_suppressedExceptions_v15 := F3_suppressedExceptions.other W5 (Or.inr (slot_ne (Or.inl (hw _ (List.mem_of_getElem? (i := 75) rfl))) (Or.inl (hw _ (List.mem_of_getElem? (i := 69) rfl))) (by decide) (t := (.object "java/util/List")) (t' := (.object "java/lang/Throwable")) (by decide) (by decide)))
  have F3_suppressedExceptions_v16 := F3_suppressedExceptions_v15.other W10 (Or.inr (slot_ne (Or.inl (hw _ (List.mem_of_getElem? (i := 75) rfl))) (Or.inl (hw _ (List.mem_of_getElem? (i := 72) rfl))) (by decide) (t := (.object "java/util/List")) (t' := (.array (.object "java/lang/StackTraceElement"))) (by decide) (by decide)))
  obtain ⟨T17, h17, X17, e17, W17, st17⟩ := putF X13 hx hZ hown (host := "") (Or.inl (hw _ (List.mem_of_getElem? (i := 74) rfl))) Via.refl e13 F3_suppressedExceptions_v16 E0_v14 (Or.inl (hw _ (List.mem_of_getElem? (i := 75) rfl))) (hw _ (List.mem_of_getElem? (i := 29) rfl)) (ty := (.object "java/util/List")) (by decide) rfl rfl (g := (mkF m 20 (LS_RR r0 r1) [(.ref sn), (.ref r0)])) rfl rfl (hb hby d9_20)
  have N17 := Fr.snoc X17 N10 g_r0
  have On17 := own_on_snoc X17 On10
  have Fw17 := F3_suppressedExceptions_v16.same W17
  refine own_go (B := T17.setTop (mkF m 23 (LS_RR r0 r1) [])) (fun t k => st17 _ k) ?_
  refine own_go (B := T17.setTop (mkF m 24 (LS_RR r0 r1) [(.ref r0)])) (fun t k => ?_) ?_
  · show Steps p.tables e below (T17.setTop (mkF m 23 (LS_RR r0 r1) [])) _
    refine XS.aloadN X17.here hx rfl (hb hby d9_23) rfl rfl ?_
    exact k
  have E0_v19 := E0_v14.wr W17
  have U0_v20 := Unt.wr W5 U0
  have U0_v21 := Unt.wr W10 U0_v20
  have U0_v22 := Unt.wr W17 U0_v21
  have FB_v23 := FB.other W5 (Or.inr (slot_ne (Or.inl (hw _ (List.mem_of_getElem? (i := 100) rfl))) (Or.inl (hw _ (List.mem_of_getElem? (i := 69) rfl))) (by decide) (t := (.object "java/lang/Object")) (t' := (.object "java/lang/Throwable")) (by decide) (by decide)))
  have FB_v24 := FB_v23.other W10 (Or.inr (slot_ne (Or.inl (hw _ (List.mem_of_getElem? (i := 100) rfl))) (Or.inl (hw _ (List.mem_of_getElem? (i := 72) rfl))) (by decide) (t := (.object "java/lang/Object")) (t' := (.array (.object "java/lang/StackTraceElement"))) (by decide) (by decide)))
  have FB_v25 := FB_v24.other W17 (Or.inr (slot_ne (Or.inl (hw _ (List.mem_of_getElem? (i := 100) rfl))) (Or.inl (hw _ (List.mem_of_getElem? (i := 75) rfl))) (by decide) (t := (.object "java/lang/Object")) (t' := (.object "java/util/List")) (by decide) (by decide)))
  have Fw10_v26 := Fw10.other W17 (Or.inr (slot_ne (Or.inl (hw _ (List.mem_of_getElem? (i := 72) rfl))) (Or.inl (hw _ (List.mem_of_getElem? (i := 75) rfl))) (by decide) (t := (.array (.object "java/lang/StackTraceElement"))) (t' := (.object "java/util/List")) (by decide) (by decide)))
  have SU_v27 := SU_v6.wr W10
  have SU_v28 := SU_v27.wr W17
  obtain ⟨T18, L18, O18, X18, st18⟩ := own_fill X17 hx hl hw hZ hown hK e17 E0_v19 U0_v22 FB_v25 Fw10_v26 SU_v28 (g := (mkF m 24 (LS_RR r0 r1) [(.ref r0)])) rfl (by rw [hml]; rfl) rfl (by show 2 * 0 + _ ≤ _; exact Nat.le_of_eq rfl) (hb hby d9_24) (by decide) (by decide) (by decide) (by decide)
  have On18 := own_on_app On17 O18
  have N18 := own_on_fr On18 g_r0
  have K18 := own_on_keep X18 hh On18
  have E18 := E0.keep K18
  have Z18 := Nat.le_trans Z0 K18.1
  obtain ⟨v18_detailMessage, F18_detailMessage⟩ := fld_laid (O := "java/lang/Throwable") (n := "detailMessage") (d := "Ljava/lang/String;") E18 (own_known U0 K18) (hw _ (List.mem_of_getElem? (i := 29) rfl)) (Or.inl (hw _ (List.mem_of_getElem? (i := 99) rfl)))
  refine own_go (B := T18.setTop (mkF m 27 (LS_RR r0 r1) [(.ref r0)])) (fun t k => st18 _ k) ?_
  refine own_go (B := T18.setTop (mkF m 30 (LS_RR r0 r1) [(.ref r1), (.ref r0)])) (fun t k => ?_) ?_
  · show Steps p.tables e below (T18.setTop (mkF m 27 (LS_RR r0 r1) [(.ref r0)])) _
    refine XS.pop X18.here hx rfl (hb hby d9_27) rfl rfl ?_
    show Steps p.tables e below (T18.setTop (mkF m 28 (LS_RR r0 r1) [])) _
    refine XS.aloadN X18.here hx rfl (hb hby d9_28) rfl rfl ?_
    show Steps p.tables e below (T18.setTop (mkF m 29 (LS_RR r0 r1) [(.ref r0)])) _
    refine XS.aloadN X18.here hx rfl (hb hby d9_29) rfl rfl ?_
    exact k
  obtain ⟨T29, h29, X29, e29, W29, st29⟩ := putF X18 hx hZ hown (host := "") (Or.inl (hw _ (List.mem_of_getElem? (i := 103) rfl))) Via.refl rfl F18_detailMessage E18 (Or.inl (hw _ (List.mem_of_getElem? (i := 99) rfl))) (hw _ (List.mem_of_getElem? (i := 29) rfl)) (ty := (.object "java/lang/String")) (by decide) rfl rfl (g := (mkF m 30 (LS_RR r0 r1) [(.ref r1), (.ref r0)])) rfl rfl (hb hby d9_30)
  have N29 := Fr.snoc X29 N18 g_r0
  have On29 := own_on_snoc X29 On18
  have Fw29 := F18_detailMessage.same W29
  refine own_go (B := T29.setTop (mkF m 33 (LS_RR r0 r1) [])) (fun t k => st29 _ k) ?_
  obtain ⟨fs, hr, hrun, hended, hW, hsame⟩ := X29.leave (v := none) (fun _ => rfl) (BodyLoose.notSynchronized Bd)
  refine ⟨_, _, ?_, hrun, hended, _, _, rfl, ?_, ⟨_, rfl⟩, hW, hsame.mono (by decide) (by decide)⟩
  · show Steps p.tables e below (T29.setTop (mkF m 33 (LS_RR r0 r1) [])) _
    exact X29.returnOut hx Bd.returns (hb hby d9_33) hr
  · show Qthr Z r0 r1 uu sn h0 n0 _ T29.heap _
    rw [e29]
    have K18_v30 := K18.wr W29 (Or.inl (List.mem_of_getElem? (i := 0) rfl))
    exact ⟨rfl, N29, K18_v30⟩
theorem ef_exc (m : MethodId) (r0 : Addr) (r1 : Addr) : entryFrame m #[(.ref r0), (.ref r1)] 2 = mkF m 0 #[.val (.ref r0), .val (.ref r1)] [] := by first | (simp [entryFrame, mkF, argsToLocals, Value.category]; done) | rfl
theorem pn_8 : plainName "java/lang/Exception" = true := by first | (simp [plainName, overriddenIn]; done) | decide +kernel
theorem d8_0 : decode jdk_59_method_2_code 0 = .ok (.aload_n 0, 1) := by decide +kernel
theorem d8_1 : decode jdk_59_method_2_code 1 = .ok (.aload_n 1, 1) := by decide +kernel
theorem d8_2 : decode jdk_59_method_2_code 2 = .ok (.invokespecial 7, 3) := by decide +kernel
theorem pd__Ljava_lang_String__V : parseMethodDescriptor "(Ljava/lang/String;)V" = some ⟨[(.object "java/lang/String")], none⟩ := by decide +kernel
theorem d8_5 : decode jdk_59_method_2_code 5 = .ok (.return_, 1) := by decide +kernel
def Qexc (Z : State) (r0 : Addr) (r1 : Addr) (uu sn : Addr) (h0 : Heap) (n0 : Nat) (v : Option Value) (h : Heap) (L : List Loc) : Prop := v = none ∧ Fr n0 L ∧ Keep h0 h [r0]
set_option maxRecDepth 65536 in
set_option maxHeartbeats 40000000 in
theorem rmexc (l : Launch) (Z : State) (a0 : Array Value) (hw : ∀ d ∈ tables_1, d.before a0 Z = true) (ws : List Jvm.Cond) (r0 : Addr) (r1 : Addr) (uu sn : Addr) (h0 : Heap) (n0 : Nat) (Z0 : n0 ≤ h0.size) (E0 : Exa Z h0 r0 "com/example/weighted_scheduler/weightedscheduler/ApiError") (U0 : Unt h0 r0) (FB : Fld Z h0 r0 "java/lang/Throwable" "backtrace" "Ljava/lang/Object;" .null) (SU : Sta Z h0 "java/lang/Throwable" "UNASSIGNED_STACK" "[Ljava/lang/StackTraceElement;" (.ref uu)) (SS : Sta Z h0 "java/lang/Throwable" "SUPPRESSED_SENTINEL" "Ljava/util/List;" (.ref sn)) (g_r0 : n0 ≤ r0) (hl : l.flags = pinnedFlags) :
    MetFree l (⟨"java/lang/Exception", "<init>", "(Ljava/lang/String;)V"⟩ : MethodName) (head1 (Jvm.Cond.code (⟨"java/lang/Exception", "<init>", "(Ljava/lang/String;)V"⟩ : MethodName) jdk_59_method_2_code 2 none :: ws) ({ frames := 4, cells := 1, slots := 2752, locals := 56 } : Room)) (fun a U => a = #[(.ref r0), (.ref r1)] ∧ Z.Warmed39 U.vm ∧ U.heap = h0) (fun _ _ bl s _ => s.vm.MethodsKnown ∧ s.vm.FramesKnown bl) (fun _ U o U' => ∃ v L, o = .returned v ∧ Qexc Z r0 r1 uu sn h0 n0 v U'.heap L ∧ FrameEnd U o U' L ({ frames := 4, cells := 1, slots := 2752, locals := 56 } : Room).cells ({ frames := 4, cells := 1, slots := 2752, locals := 56 } : Room).slots) := by
  refine MetFree.of_bodySF (plainFor_of_name pn_8) hisR ?_
  intro p e s m args below meth c s₁ Bd hml0 hP hK
  obtain ⟨rfl, hZ, hh⟩ := hP
  have hx := Bd.exec
  have hby := Bd.bytes
  have hml : c.maxLocals = 2 := hml0
  have hown : s.vm.findClass "java/lang/Exception" = some m.cls := findClass_of_methodNamed Bd.named
  have hnm := (name_of_methodNamed Bd.named Bd.method).1
  have X0 : Stand p l e ({ frames := 4, cells := 1, slots := 2752, locals := 56 } : Room) s m #[(.ref r0), (.ref r1)] below meth c s₁ [] 0 0 := Stand.of_body Bd
  have e0 : s₁.heap = h0 := by rw [← hh, Bd.state]; rfl
  have N0 := Fr.nil n0
  refine own_go (B := s₁.setTop (mkF m 0 (LS_RR r0 r1) [])) (fun t k => castTop (ef_exc m r0 r1) k) ?_
  have K0 : Keep h0 h0 [r0] := Keep.refl _ _
  refine own_go (B := s₁.setTop (mkF m 2 (LS_RR r0 r1) [(.ref r1), (.ref r0)])) (fun t k => ?_) ?_
  · show Steps p.tables e below (s₁.setTop (mkF m 0 (LS_RR r0 r1) [])) _
    refine XS.aloadN X0.here hx rfl (hb hby d8_0) rfl rfl ?_
    show Steps p.tables e below (s₁.setTop (mkF m 1 (LS_RR r0 r1) [(.ref r0)])) _
    refine XS.aloadN X0.here hx rfl (hb hby d8_1) rfl rfl ?_
    exact k
  obtain ⟨_, _, ⟨T1, L1, k1, n1⟩, -, X1, ⟨Lc1, hQ1, l1, y1, z1⟩, st1⟩ := X0.specialBack hx (y := (⟨"java/lang/Throwable", "<init>", "(Ljava/lang/String;)V"⟩ : MethodName)) rfl hown (mvT hZ (hw _ (List.mem_of_getElem? (i := 61) rfl))) (mvT hZ (hw _ (List.mem_of_getElem? (i := 62) rfl))) (mvT hZ (hw _ (List.mem_of_getElem? (i := 66) rfl))) (by decide) (backOfKL (W := 0) (rmthr l Z a0 hw [] r0 r1 uu sn h0 n0 Z0 E0 U0 FB SU SS g_r0 hl) hZ (hw _ (List.mem_of_getElem? (i := 66) rfl)) (hw _ (List.mem_of_getElem? (i := 65) rfl)) (by decide) (by decide) hK.1 hK.2) (g := (mkF m 2 (LS_RR r0 r1) [(.ref r1), (.ref r0)])) rfl (by rw [hml]; rfl) (Steps.refl _) (a := r0) (argsL := [(.ref r1)]) (rest := []) (lenOf pd__Ljava_lang_String__V rfl) rfl (by show 2 * 0 + _ ≤ _; exact Nat.le_of_eq rfl) (hb hby d8_2) (fun _ _ => ⟨rfl, e0, (by decide : 0 + 1 ≤ _), (by decide : 0 + 2752 ≤ _)⟩)
  dsimp only [Pt.U, Pt.locs, Pt.cells, Pt.slots] at X1 l1 y1 z1 st1 hQ1
  subst l1 y1 z1
  obtain ⟨rfl, N1q, K1⟩ := hQ1
  have N1 := Fr.app N0 N1q
  refine own_go (B := T1.setTop (mkF m 5 (LS_RR r0 r1) [])) (fun t k => st1.trans k) ?_
  obtain ⟨fs, hr, hrun, hended, hW, hsame⟩ := X1.leave (v := none) (fun _ => rfl) (BodyLoose.notSynchronized Bd)
  refine ⟨_, _, ?_, hrun, hended, _, _, rfl, ?_, ⟨_, rfl⟩, hW, hsame.mono (by decide) (by decide)⟩
  · show Steps p.tables e below (T1.setTop (mkF m 5 (LS_RR r0 r1) [])) _
    exact X1.returnOut hx Bd.returns (hb hby d8_5) hr
  · show Qexc Z r0 r1 uu sn h0 n0 _ T1.heap _
    have K0_v2 := K0.trans K1 (allS (Or.inl (List.mem_of_getElem? (i := 0) rfl)) all0)
    exact ⟨rfl, N1, K0_v2⟩
theorem ef_rte (m : MethodId) (r0 : Addr) (r1 : Addr) : entryFrame m #[(.ref r0), (.ref r1)] 2 = mkF m 0 #[.val (.ref r0), .val (.ref r1)] [] := by first | (simp [entryFrame, mkF, argsToLocals, Value.category]; done) | rfl
theorem pn_7 : plainName "java/lang/RuntimeException" = true := by first | (simp [plainName, overriddenIn]; done) | decide +kernel
theorem d7_0 : decode jdk_58_method_2_code 0 = .ok (.aload_n 0, 1) := by decide +kernel
theorem d7_1 : decode jdk_58_method_2_code 1 = .ok (.aload_n 1, 1) := by decide +kernel
theorem d7_2 : decode jdk_58_method_2_code 2 = .ok (.invokespecial 7, 3) := by decide +kernel
theorem d7_5 : decode jdk_58_method_2_code 5 = .ok (.return_, 1) := by decide +kernel
def Qrte (Z : State) (r0 : Addr) (r1 : Addr) (uu sn : Addr) (h0 : Heap) (n0 : Nat) (v : Option Value) (h : Heap) (L : List Loc) : Prop := v = none ∧ Fr n0 L ∧ Keep h0 h [r0]
set_option maxRecDepth 65536 in
set_option maxHeartbeats 40000000 in
theorem rmrte (l : Launch) (Z : State) (a0 : Array Value) (hw : ∀ d ∈ tables_1, d.before a0 Z = true) (ws : List Jvm.Cond) (r0 : Addr) (r1 : Addr) (uu sn : Addr) (h0 : Heap) (n0 : Nat) (Z0 : n0 ≤ h0.size) (E0 : Exa Z h0 r0 "com/example/weighted_scheduler/weightedscheduler/ApiError") (U0 : Unt h0 r0) (FB : Fld Z h0 r0 "java/lang/Throwable" "backtrace" "Ljava/lang/Object;" .null) (SU : Sta Z h0 "java/lang/Throwable" "UNASSIGNED_STACK" "[Ljava/lang/StackTraceElement;" (.ref uu)) (SS : Sta Z h0 "java/lang/Throwable" "SUPPRESSED_SENTINEL" "Ljava/util/List;" (.ref sn)) (g_r0 : n0 ≤ r0) (hl : l.flags = pinnedFlags) :
    MetFree l (⟨"java/lang/RuntimeException", "<init>", "(Ljava/lang/String;)V"⟩ : MethodName) (head1 (Jvm.Cond.code (⟨"java/lang/RuntimeException", "<init>", "(Ljava/lang/String;)V"⟩ : MethodName) jdk_58_method_2_code 2 none :: ws) ({ frames := 5, cells := 1, slots := 2752, locals := 70 } : Room)) (fun a U => a = #[(.ref r0), (.ref r1)] ∧ Z.Warmed39 U.vm ∧ U.heap = h0) (fun _ _ bl s _ => s.vm.MethodsKnown ∧ s.vm.FramesKnown bl) (fun _ U o U' => ∃ v L, o = .returned v ∧ Qrte Z r0 r1 uu sn h0 n0 v U'.heap L ∧ FrameEnd U o U' L ({ frames := 5, cells := 1, slots := 2752, locals := 70 } : Room).cells ({ frames := 5, cells := 1, slots := 2752, locals := 70 } : Room).slots) := by
  refine MetFree.of_bodySF (plainFor_of_name pn_7) hisR ?_
  intro p e s m args below meth c s₁ Bd hml0 hP hK
  obtain ⟨rfl, hZ, hh⟩ := hP
  have hx := Bd.exec
  have hby := Bd.bytes
  have hml : c.maxLocals = 2 := hml0
  have hown : s.vm.findClass "java/lang/RuntimeException" = some m.cls := findClass_of_methodNamed Bd.named
  have hnm := (name_of_methodNamed Bd.named Bd.method).1
  have X0 : Stand p l e ({ frames := 5, cells := 1, slots := 2752, locals := 70 } : Room) s m #[(.ref r0), (.ref r1)] below meth c s₁ [] 0 0 := Stand.of_body Bd
  have e0 : s₁.heap = h0 := by rw [← hh, Bd.state]; rfl
  have N0 := Fr.nil n0
  refine own_go (B := s₁.setTop (mkF m 0 (LS_RR r0 r1) [])) (fun t k => castTop (ef_rte m r0 r1) k) ?_
  have K0 : Keep h0 h0 [r0] := Keep.refl _ _
  refine own_go (B := s₁.setTop (mkF m 2 (LS_RR r0 r1) [(.ref r1), (.ref r0)])) (fun t k => ?_) ?_
  · show Steps p.tables e below (s₁.setTop (mkF m 0 (LS_RR r0 r1) [])) _
    refine XS.aloadN X0.here hx rfl (hb hby d7_0) rfl rfl ?_
    show Steps p.tables e below (s₁.setTop (mkF m 1 (LS_RR r0 r1) [(.ref r0)])) _
    refine XS.aloadN X0.here hx rfl (hb hby d7_1) rfl rfl ?_
    exact k
  obtain ⟨_, _, ⟨T1, L1, k1, n1⟩, -, X1, ⟨Lc1, hQ1, l1, y1, z1⟩, st1⟩ := X0.specialBack hx (y := (⟨"java/lang/Exception", "<init>", "(Ljava/lang/String;)V"⟩ : MethodName)) rfl hown (mvT hZ (hw _ (List.mem_of_getElem? (i := 55) rfl))) (mvT hZ (hw _ (List.mem_of_getElem? (i := 56) rfl))) (mvT hZ (hw _ (List.mem_of_getElem? (i := 60) rfl))) (by decide) (backOfKL (W := 0) (rmexc l Z a0 hw [] r0 r1 uu sn h0 n0 Z0 E0 U0 FB SU SS g_r0 hl) hZ (hw _ (List.mem_of_getElem? (i := 60) rfl)) (hw _ (List.mem_of_getElem? (i := 59) rfl)) (by decide) (by decide) hK.1 hK.2) (g := (mkF m 2 (LS_RR r0 r1) [(.ref r1), (.ref r0)])) rfl (by rw [hml]; rfl) (Steps.refl _) (a := r0) (argsL := [(.ref r1)]) (rest := []) (lenOf pd__Ljava_lang_String__V rfl) rfl (by show 2 * 0 + _ ≤ _; exact Nat.le_of_eq rfl) (hb hby d7_2) (fun _ _ => ⟨rfl, e0, (by decide : 0 + 1 ≤ _), (by decide : 0 + 2752 ≤ _)⟩)
  dsimp only [Pt.U, Pt.locs, Pt.cells, Pt.slots] at X1 l1 y1 z1 st1 hQ1
  subst l1 y1 z1
  obtain ⟨rfl, N1q, K1⟩ := hQ1
  have N1 := Fr.app N0 N1q
  refine own_go (B := T1.setTop (mkF m 5 (LS_RR r0 r1) [])) (fun t k => st1.trans k) ?_
  obtain ⟨fs, hr, hrun, hended, hW, hsame⟩ := X1.leave (v := none) (fun _ => rfl) (BodyLoose.notSynchronized Bd)
  refine ⟨_, _, ?_, hrun, hended, _, _, rfl, ?_, ⟨_, rfl⟩, hW, hsame.mono (by decide) (by decide)⟩
  · show Steps p.tables e below (T1.setTop (mkF m 5 (LS_RR r0 r1) [])) _
    exact X1.returnOut hx Bd.returns (hb hby d7_5) hr
  · show Qrte Z r0 r1 uu sn h0 n0 _ T1.heap _
    have K0_v2 := K0.trans K1 (allS (Or.inl (List.mem_of_getElem? (i := 0) rfl)) all0)
    exact ⟨rfl, N1, K0_v2⟩
theorem ef_ae4 (m : MethodId) (r0 : Addr) (p1 : Int32) (r2 : Addr) (r3 : Addr) (r4 : Addr) : entryFrame m #[(.ref r0), (.int p1), (.ref r2), (.ref r3), (.ref r4)] 5 = mkF m 0 #[.val (.ref r0), .val (.int p1), .val (.ref r2), .val (.ref r3), .val (.ref r4)] [] := by first | (simp [entryFrame, mkF, argsToLocals, Value.category]; done) | rfl
theorem pn_6 : plainName "com/example/weighted_scheduler/weightedscheduler/ApiError" = true := by first | (simp [plainName, overriddenIn]; done) | decide +kernel
abbrev LS_RIRRR (a0 : Addr) (a1 : Int32) (a2 : Addr) (a3 : Addr) (a4 : Addr) : Array Slot := #[.val (.ref a0), .val (.int a1), .val (.ref a2), .val (.ref a3), .val (.ref a4)]
theorem d6_0 : decode prog_3_method_2_code 0 = .ok (.aload_n 0, 1) := by decide +kernel
theorem d6_1 : decode prog_3_method_2_code 1 = .ok (.aload_n 3, 1) := by decide +kernel
theorem d6_2 : decode prog_3_method_2_code 2 = .ok (.invokespecial 13, 3) := by decide +kernel
theorem d6_5 : decode prog_3_method_2_code 5 = .ok (.aload_n 0, 1) := by decide +kernel
theorem d6_6 : decode prog_3_method_2_code 6 = .ok (.iload_n 1, 1) := by decide +kernel
theorem d6_7 : decode prog_3_method_2_code 7 = .ok (.putfield 18, 3) := by decide +kernel
theorem d6_10 : decode prog_3_method_2_code 10 = .ok (.aload_n 0, 1) := by decide +kernel
theorem d6_11 : decode prog_3_method_2_code 11 = .ok (.aload_n 2, 1) := by decide +kernel
theorem d6_12 : decode prog_3_method_2_code 12 = .ok (.putfield 22, 3) := by decide +kernel
theorem d6_15 : decode prog_3_method_2_code 15 = .ok (.aload_n 0, 1) := by decide +kernel
theorem d6_16 : decode prog_3_method_2_code 16 = .ok (.aload 4, 2) := by decide +kernel
theorem d6_18 : decode prog_3_method_2_code 18 = .ok (.putfield 26, 3) := by decide +kernel
theorem d6_21 : decode prog_3_method_2_code 21 = .ok (.return_, 1) := by decide +kernel
def Qae4 (Z : State) (r0 : Addr) (p1 : Int32) (r2 : Addr) (r3 : Addr) (r4 : Addr) (uu sn : Addr) (h0 : Heap) (n0 : Nat) (v : Option Value) (h : Heap) (L : List Loc) : Prop := v = none ∧ Fr n0 L ∧ Keep h0 h [r0]
set_option maxRecDepth 65536 in
set_option maxHeartbeats 40000000 in
theorem rmae4 (l : Launch) (Z : State) (a0 : Array Value) (hw : ∀ d ∈ tables_1, d.before a0 Z = true) (ws : List Jvm.Cond) (r0 : Addr) (p1 : Int32) (r2 : Addr) (r3 : Addr) (r4 : Addr) (uu sn : Addr) (h0 : Heap) (n0 : Nat) (Z0 : n0 ≤ h0.size) (E0 : Exa Z h0 r0 "com/example/weighted_scheduler/weightedscheduler/ApiError") (U0 : Unt h0 r0) (FB : Fld Z h0 r0 "java/lang/Throwable" "backtrace" "Ljava/lang/Object;" .null) (SU : Sta Z h0 "java/lang/Throwable" "UNASSIGNED_STACK" "[Ljava/lang/StackTraceElement;" (.ref uu)) (SS : Sta Z h0 "java/lang/Throwable" "SUPPRESSED_SENTINEL" "Ljava/util/List;" (.ref sn)) (g_r0 : n0 ≤ r0) (hl : l.flags = pinnedFlags) :
    MetFree l (⟨"com/example/weighted_scheduler/weightedscheduler/ApiError", "<init>", "(ILjava/lang/String;Ljava/lang/String;Ljava/util/Map;)V"⟩ : MethodName) (head1 (Jvm.Cond.code (⟨"com/example/weighted_scheduler/weightedscheduler/ApiError", "<init>", "(ILjava/lang/String;Ljava/lang/String;Ljava/util/Map;)V"⟩ : MethodName) prog_3_method_2_code 5 none :: ws) ({ frames := 6, cells := 1, slots := 2752, locals := 84 } : Room)) (fun a U => a = #[(.ref r0), (.int p1), (.ref r2), (.ref r3), (.ref r4)] ∧ Z.Warmed39 U.vm ∧ U.heap = h0) (fun _ _ bl s _ => s.vm.MethodsKnown ∧ s.vm.FramesKnown bl) (fun _ U o U' => ∃ v L, o = .returned v ∧ Qae4 Z r0 p1 r2 r3 r4 uu sn h0 n0 v U'.heap L ∧ FrameEnd U o U' L ({ frames := 6, cells := 1, slots := 2752, locals := 84 } : Room).cells ({ frames := 6, cells := 1, slots := 2752, locals := 84 } : Room).slots) := by
  refine MetFree.of_bodySF (plainFor_of_name pn_6) hisR ?_
  intro p e s m args below meth c s₁ Bd hml0 hP hK
  obtain ⟨rfl, hZ, hh⟩ := hP
  have hx := Bd.exec
  have hby := Bd.bytes
  have hml : c.maxLocals = 5 := hml0
  have hown : s.vm.findClass "com/example/weighted_scheduler/weightedscheduler/ApiError" = some m.cls := findClass_of_methodNamed Bd.named
  have hnm := (name_of_methodNamed Bd.named Bd.method).1
  have X0 : Stand p l e ({ frames := 6, cells := 1, slots := 2752, locals := 84 } : Room) s m #[(.ref r0), (.int p1), (.ref r2), (.ref r3), (.ref r4)] below meth c s₁ [] 0 0 := Stand.of_body Bd
  have e0 : s₁.heap = h0 := by rw [← hh, Bd.state]; rfl
  have N0 := Fr.nil n0
  refine own_go (B := s₁.setTop (mkF m 0 (LS_RIRRR r0 p1 r2 r3 r4) [])) (fun t k => castTop (ef_ae4 m r0 p1 r2 r3 r4) k) ?_
  have K0 : Keep h0 h0 [r0] := Keep.refl _ _
  refine own_go (B := s₁.setTop (mkF m 2 (LS_RIRRR r0 p1 r2 r3 r4) [(.ref r3), (.ref r0)])) (fun t k => ?_) ?_
  · show Steps p.tables e below (s₁.setTop (mkF m 0 (LS_RIRRR r0 p1 r2 r3 r4) [])) _
    refine XS.aloadN X0.here hx rfl (hb hby d6_0) rfl rfl ?_
    show Steps p.tables e below (s₁.setTop (mkF m 1 (LS_RIRRR r0 p1 r2 r3 r4) [(.ref r0)])) _
    refine XS.aloadN X0.here hx rfl (hb hby d6_1) rfl rfl ?_
    exact k
  obtain ⟨_, _, ⟨T1, L1, k1, n1⟩, -, X1, ⟨Lc1, hQ1, l1, y1, z1⟩, st1⟩ := X0.specialBack hx (y := (⟨"java/lang/RuntimeException", "<init>", "(Ljava/lang/String;)V"⟩ : MethodName)) rfl hown (mvT hZ (hw _ (List.mem_of_getElem? (i := 50) rfl))) (mvT hZ (hw _ (List.mem_of_getElem? (i := 51) rfl))) (mvT hZ (hw _ (List.mem_of_getElem? (i := 54) rfl))) (by decide) (backOfKL (W := 0) (rmrte l Z a0 hw [] r0 r3 uu sn h0 n0 Z0 E0 U0 FB SU SS g_r0 hl) hZ (hw _ (List.mem_of_getElem? (i := 54) rfl)) (hw _ (List.mem_of_getElem? (i := 53) rfl)) (by decide) (by decide) hK.1 hK.2) (g := (mkF m 2 (LS_RIRRR r0 p1 r2 r3 r4) [(.ref r3), (.ref r0)])) rfl (by rw [hml]; rfl) (Steps.refl _) (a := r0) (argsL := [(.ref r3)]) (rest := []) (lenOf pd__Ljava_lang_String__V rfl) rfl (by show 2 * 0 + _ ≤ _; exact Nat.le_of_eq rfl) (hb hby d6_2) (fun _ _ => ⟨rfl, e0, (by decide : 0 + 1 ≤ _), (by decide : 0 + 2752 ≤ _)⟩)
  dsimp only [Pt.U, Pt.locs, Pt.cells, Pt.slots] at X1 l1 y1 z1 st1 hQ1
  subst l1 y1 z1
  obtain ⟨rfl, N1q, K1⟩ := hQ1
  have N1 := Fr.app N0 N1q
  refine own_go (B := T1.setTop (mkF m 5 (LS_RIRRR r0 p1 r2 r3 r4) [])) (fun t k => st1.trans k) ?_
  have K0_v3 := K0.trans K1 (allS (Or.inl (List.mem_of_getElem? (i := 0) rfl)) all0)
  have E0_v4 := E0.keep K1
  obtain ⟨v2_status, F2_status⟩ := fld_laid (O := "com/example/weighted_scheduler/weightedscheduler/ApiError") (n := "status") (d := "I") E0_v4 (own_known U0 K0_v3) (hw _ (List.mem_of_getElem? (i := 29) rfl)) (Or.inr (hw _ (List.mem_of_getElem? (i := 105) rfl)))
  obtain ⟨v2_code, F2_code⟩ := fld_laid (O := "com/example/weighted_scheduler/weightedscheduler/ApiError") (n := "code") (d := "Ljava/lang/String;") E0_v4 (own_known U0 K0_v3) (hw _ (List.mem_of_getElem? (i := 29) rfl)) (Or.inr (hw _ (List.mem_of_getElem? (i := 107) rfl)))
  obtain ⟨v2_members, F2_members⟩ := fld_laid (O := "com/example/weighted_scheduler/weightedscheduler/ApiError") (n := "members") (d := "Ljava/util/Map;") E0_v4 (own_known U0 K0_v3) (hw _ (List.mem_of_getElem? (i := 29) rfl)) (Or.inr (hw _ (List.mem_of_getElem? (i := 109) rfl)))
  refine own_go (B := T1.setTop (mkF m 7 (LS_RIRRR r0 p1 r2 r3 r4) [(.int p1), (.ref r0)])) (fun t k => ?_) ?_
  · show Steps p.tables e below (T1.setTop (mkF m 5 (LS_RIRRR r0 p1 r2 r3 r4) [])) _
    refine XS.aloadN X1.here hx rfl (hb hby d6_5) rfl rfl ?_
    show Steps p.tables e below (T1.setTop (mkF m 6 (LS_RIRRR r0 p1 r2 r3 r4) [(.ref r0)])) _
    refine XS.iloadN X1.here hx rfl (hb hby d6_6) rfl ?_
    exact k
  obtain ⟨T5, h5, X5, e5, W5, st5⟩ := putF X1 hx hZ hown (host := "") (Or.inl (hw _ (List.mem_of_getElem? (i := 104) rfl))) Via.refl rfl F2_status E0_v4 (Or.inr ⟨(hw _ (List.mem_of_getElem? (i := 105) rfl)), rfl, hnm⟩) (hw _ (List.mem_of_getElem? (i := 29) rfl)) (ty := .int) (by decide) rfl rfl (g := (mkF m 7 (LS_RIRRR r0 p1 r2 r3 r4) [(.int p1), (.ref r0)])) rfl rfl (hb hby d6_7)
  have N5 := Fr.snoc X5 N1 g_r0
  have Fw5 := F2_status.same W5
  refine own_go (B := T5.setTop (mkF m 10 (LS_RIRRR r0 p1 r2 r3 r4) [])) (fun t k => st5 _ k) ?_
  refine own_go (B := T5.setTop (mkF m 12 (LS_RIRRR r0 p1 r2 r3 r4) [(.ref r2), (.ref r0)])) (fun t k => ?_) ?_
  · show Steps p.tables e below (T5.setTop (mkF m 10 (LS_RIRRR r0 p1 r2 r3 r4) [])) _
    refine XS.aloadN X5.here hx rfl (hb hby d6_10) rfl rfl ?_
    show Steps p.tables e below (T5.setTop (mkF m 11 (LS_RIRRR r0 p1 r2 r3 r4) [(.ref r0)])) _
    refine XS.aloadN X5.here hx rfl (hb hby d6_11) rfl rfl ?_
    exact k
  have E0_v6 := E0_v4.wr W5
  have F2_code_v7 := F2_code.other W5 (Or.inr (slot_ne (Or.inr (hw _ (List.mem_of_getElem? (i := 107) rfl))) (Or.inr (hw _ (List.mem_of_getElem? (i := 105) rfl))) (by decide) (t := (.object "java/lang/String")) (t' := .int) (by decide) (by decide)))
  obtain ⟨T8, h8, X8, e8, W8, st8⟩ := putF X5 hx hZ hown (host := "") (Or.inl (hw _ (List.mem_of_getElem? (i := 106) rfl))) Via.refl e5 F2_code_v7 E0_v6 (Or.inr ⟨(hw _ (List.mem_of_getElem? (i := 107) rfl)), rfl, hnm⟩) (hw _ (List.mem_of_getElem? (i := 29) rfl)) (ty := (.object "java/lang/String")) (by decide) rfl rfl (g := (mkF m 12 (LS_RIRRR r0 p1 r2 r3 r4) [(.ref r2), (.ref r0)])) rfl rfl (hb hby d6_12)
  have N8 := Fr.snoc X8 N5 g_r0
  have Fw8 := F2_code_v7.same W8
  refine own_go (B := T8.setTop (mkF m 15 (LS_RIRRR r0 p1 r2 r3 r4) [])) (fun t k => st8 _ k) ?_
  refine own_go (B := T8.setTop (mkF m 18 (LS_RIRRR r0 p1 r2 r3 r4) [(.ref r4), (.ref r0)])) (fun t k => ?_) ?_
  · show Steps p.tables e below (T8.setTop (mkF m 15 (LS_RIRRR r0 p1 r2 r3 r4) [])) _
    refine XS.aloadN X8.here hx rfl (hb hby d6_15) rfl rfl ?_
    show Steps p.tables e below (T8.setTop (mkF m 16 (LS_RIRRR r0 p1 r2 r3 r4) [(.ref r0)])) _
    refine XS.aload X8.here hx rfl (hb hby d6_16) rfl rfl ?_
    exact k
  have E0_v9 := E0_v6.wr W8
  have F2_members_v10 := F2_members.other W5 (Or.inr (slot_ne (Or.inr (hw _ (List.mem_of_getElem? (i := 109) rfl))) (Or.inr (hw _ (List.mem_of_getElem? (i := 105) rfl))) (by decide) (t := (.object "java/util/Map")) (t' := .int) (by decide) (by decide)))
  have F2_members_v11 := F2_members_v10.other W8 (Or.inr (slot_ne (Or.inr (hw _ (List.mem_of_getElem? (i := 109) rfl))) (Or.inr (hw _ (List.mem_of_getElem? (i := 107) rfl))) (by decide) (t := (.object "java/util/Map")) (t' := (.object "java/lang/String")) (by decide) (by decide)))
  obtain ⟨T12, h12, X12, e12, W12, st12⟩ := putF X8 hx hZ hown (host := "") (Or.inl (hw _ (List.mem_of_getElem? (i := 108) rfl))) Via.refl e8 F2_members_v11 E0_v9 (Or.inr ⟨(hw _ (List.mem_of_getElem? (i := 109) rfl)), rfl, hnm⟩) (hw _ (List.mem_of_getElem? (i := 29) rfl)) (ty := (.object "java/util/Map")) (by decide) rfl rfl (g := (mkF m 18 (LS_RIRRR r0 p1 r2 r3 r4) [(.ref r4), (.ref r0)])) rfl rfl (hb hby d6_18)
  have N12 := Fr.snoc X12 N8 g_r0
  have Fw12 := F2_members_v11.same W12
  refine own_go (B := T12.setTop (mkF m 21 (LS_RIRRR r0 p1 r2 r3 r4) [])) (fun t k => st12 _ k) ?_
  obtain ⟨fs, hr, hrun, hended, hW, hsame⟩ := X12.leave (v := none) (fun _ => rfl) (BodyLoose.notSynchronized Bd)
  refine ⟨_, _, ?_, hrun, hended, _, _, rfl, ?_, ⟨_, rfl⟩, hW, hsame.mono (by decide) (by decide)⟩
  · show Steps p.tables e below (T12.setTop (mkF m 21 (LS_RIRRR r0 p1 r2 r3 r4) [])) _
    exact X12.returnOut hx Bd.returns (hb hby d6_21) hr
  · show Qae4 Z r0 p1 r2 r3 r4 uu sn h0 n0 _ T12.heap _
    rw [e12]
    have K0_v13 := K0_v3.wr W5 (Or.inl (List.mem_of_getElem? (i := 0) rfl))
    have K0_v14 := K0_v13.wr W8 (Or.inl (List.mem_of_getElem? (i := 0) rfl))
    have K0_v15 := K0_v14.wr W12 (Or.inl (List.mem_of_getElem? (i := 0) rfl))
    exact ⟨rfl, N12, K0_v15⟩
theorem ef_ae3 (m : MethodId) (r0 : Addr) (p1 : Int32) (r2 : Addr) (r3 : Addr) : entryFrame m #[(.ref r0), (.int p1), (.ref r2), (.ref r3)] 4 = mkF m 0 #[.val (.ref r0), .val (.int p1), .val (.ref r2), .val (.ref r3)] [] := by first | (simp [entryFrame, mkF, argsToLocals, Value.category]; done) | rfl
theorem pn_4 : plainName "com/example/weighted_scheduler/weightedscheduler/ApiError" = true := by first | (simp [plainName, overriddenIn]; done) | decide +kernel
abbrev LS_RIRR (a0 : Addr) (a1 : Int32) (a2 : Addr) (a3 : Addr) : Array Slot := #[.val (.ref a0), .val (.int a1), .val (.ref a2), .val (.ref a3)]
theorem d4_0 : decode prog_3_method_1_code 0 = .ok (.aload_n 0, 1) := by decide +kernel
theorem d4_1 : decode prog_3_method_1_code 1 = .ok (.iload_n 1, 1) := by decide +kernel
theorem d4_2 : decode prog_3_method_1_code 2 = .ok (.aload_n 2, 1) := by decide +kernel
theorem d4_3 : decode prog_3_method_1_code 3 = .ok (.aload_n 3, 1) := by decide +kernel
theorem d4_4 : decode prog_3_method_1_code 4 = .ok (.invokestatic 1, 3) := by decide +kernel
theorem pd___Ljava_util_Map_ : parseMethodDescriptor "()Ljava/util/Map;" = some ⟨[], some (.object "java/util/Map")⟩ := by decide +kernel
theorem d4_7 : decode prog_3_method_1_code 7 = .ok (.invokespecial 7, 3) := by decide +kernel
theorem pd__ILjava_lang_String_Ljava_lang_String_Ljava_util_Map__V : parseMethodDescriptor "(ILjava/lang/String;Ljava/lang/String;Ljava/util/Map;)V" = some ⟨[.int, (.object "java/lang/String"), (.object "java/lang/String"), (.object "java/util/Map")], none⟩ := by decide +kernel
theorem d4_10 : decode prog_3_method_1_code 10 = .ok (.return_, 1) := by decide +kernel
def Qae3 (Z : State) (r0 : Addr) (p1 : Int32) (r2 : Addr) (r3 : Addr) (wm : Addr) (uu sn : Addr) (h0 : Heap) (n0 : Nat) (v : Option Value) (h : Heap) (L : List Loc) : Prop := v = none ∧ Fr n0 L ∧ Keep h0 h [r0]
set_option maxRecDepth 65536 in
set_option maxHeartbeats 40000000 in
theorem rmae3 (l : Launch) (Z : State) (a0 : Array Value) (hw : ∀ d ∈ tables_1, d.before a0 Z = true) (ws : List Jvm.Cond) (r0 : Addr) (p1 : Int32) (r2 : Addr) (r3 : Addr) (wm : Addr) (uu sn : Addr) (h0 : Heap) (n0 : Nat) (Z0 : n0 ≤ h0.size) (SM : Sta Z h0 "java/util/ImmutableCollections" "EMPTY_MAP" "Ljava/util/ImmutableCollections$MapN;" (.ref wm)) (E0 : Exa Z h0 r0 "com/example/weighted_scheduler/weightedscheduler/ApiError") (U0 : Unt h0 r0) (FB : Fld Z h0 r0 "java/lang/Throwable" "backtrace" "Ljava/lang/Object;" .null) (SU : Sta Z h0 "java/lang/Throwable" "UNASSIGNED_STACK" "[Ljava/lang/StackTraceElement;" (.ref uu)) (SS : Sta Z h0 "java/lang/Throwable" "SUPPRESSED_SENTINEL" "Ljava/util/List;" (.ref sn)) (g_r0 : n0 ≤ r0) (hl : l.flags = pinnedFlags) :
    MetFree l (⟨"com/example/weighted_scheduler/weightedscheduler/ApiError", "<init>", "(ILjava/lang/String;Ljava/lang/String;)V"⟩ : MethodName) (head1 (Jvm.Cond.code (⟨"com/example/weighted_scheduler/weightedscheduler/ApiError", "<init>", "(ILjava/lang/String;Ljava/lang/String;)V"⟩ : MethodName) prog_3_method_1_code 4 none :: ws) ({ frames := 7, cells := 1, slots := 2752, locals := 104 } : Room)) (fun a U => a = #[(.ref r0), (.int p1), (.ref r2), (.ref r3)] ∧ Z.Warmed39 U.vm ∧ U.heap = h0) (fun _ _ bl s _ => s.vm.MethodsKnown ∧ s.vm.FramesKnown bl) (fun _ U o U' => ∃ v L, o = .returned v ∧ Qae3 Z r0 p1 r2 r3 wm uu sn h0 n0 v U'.heap L ∧ FrameEnd U o U' L ({ frames := 7, cells := 1, slots := 2752, locals := 104 } : Room).cells ({ frames := 7, cells := 1, slots := 2752, locals := 104 } : Room).slots) := by
  refine MetFree.of_bodySF (plainFor_of_name pn_4) hisR ?_
  intro p e s m args below meth c s₁ Bd hml0 hP hK
  obtain ⟨rfl, hZ, hh⟩ := hP
  have hx := Bd.exec
  have hby := Bd.bytes
  have hml : c.maxLocals = 4 := hml0
  have hown : s.vm.findClass "com/example/weighted_scheduler/weightedscheduler/ApiError" = some m.cls := findClass_of_methodNamed Bd.named
  have hnm := (name_of_methodNamed Bd.named Bd.method).1
  have X0 : Stand p l e ({ frames := 7, cells := 1, slots := 2752, locals := 104 } : Room) s m #[(.ref r0), (.int p1), (.ref r2), (.ref r3)] below meth c s₁ [] 0 0 := Stand.of_body Bd
  have e0 : s₁.heap = h0 := by rw [← hh, Bd.state]; rfl
  have N0 := Fr.nil n0
  refine own_go (B := s₁.setTop (mkF m 0 (LS_RIRR r0 p1 r2 r3) [])) (fun t k => castTop (ef_ae3 m r0 p1 r2 r3) k) ?_
  have K0 : Keep h0 h0 [r0] := Keep.refl _ _
  refine own_go (B := s₁.setTop (mkF m 4 (LS_RIRR r0 p1 r2 r3) [(.ref r3), (.ref r2), (.int p1), (.ref r0)])) (fun t k => ?_) ?_
  · show Steps p.tables e below (s₁.setTop (mkF m 0 (LS_RIRR r0 p1 r2 r3) [])) _
    refine XS.aloadN X0.here hx rfl (hb hby d4_0) rfl rfl ?_
    show Steps p.tables e below (s₁.setTop (mkF m 1 (LS_RIRR r0 p1 r2 r3) [(.ref r0)])) _
    refine XS.iloadN X0.here hx rfl (hb hby d4_1) rfl ?_
    show Steps p.tables e below (s₁.setTop (mkF m 2 (LS_RIRR r0 p1 r2 r3) [(.int p1), (.ref r0)])) _
    refine XS.aloadN X0.here hx rfl (hb hby d4_2) rfl rfl ?_
    show Steps p.tables e below (s₁.setTop (mkF m 3 (LS_RIRR r0 p1 r2 r3) [(.ref r2), (.int p1), (.ref r0)])) _
    refine XS.aloadN X0.here hx rfl (hb hby d4_3) rfl rfl ?_
    exact k
  obtain ⟨_, _, ⟨T1, L1, k1, n1⟩, -, X1, ⟨Lc1, hQ1, l1, y1, z1⟩, st1⟩ := Jvm.LawKit.callS X0 hx (y := (⟨"java/util/Map", "of", "()Ljava/util/Map;"⟩ : MethodName)) hown (mvT hZ (hw _ (List.mem_of_getElem? (i := 41) rfl))) (mvT hZ (hw _ (List.mem_of_getElem? (i := 42) rfl))) (mvT hZ (hw _ (List.mem_of_getElem? (i := 43) rfl))) (mvT hZ (hw _ (List.mem_of_getElem? (i := 44) rfl))) (by decide) (backOf (W := 4) (rmmof l Z a0 hw [] wm h0 n0 Z0 SM) hZ (hw _ (List.mem_of_getElem? (i := 44) rfl)) (hw _ (List.mem_of_getElem? (i := 43) rfl)) (by decide) (by decide)) (g := (mkF m 4 (LS_RIRR r0 p1 r2 r3) [(.ref r3), (.ref r2), (.int p1), (.ref r0)])) rfl (by rw [hml]; rfl) (argsL := []) (rest := [(.ref r3), (.ref r2), (.int p1), (.ref r0)]) (lenOf pd___Ljava_util_Map_ rfl) rfl (by show 2 * 0 + _ ≤ _; exact Nat.le_of_eq rfl) (hb hby d4_4) (fun _ _ => ⟨rfl, e0, (by decide : 0 + 0 ≤ _), (by decide : 0 + 0 ≤ _)⟩)
  dsimp only [Pt.U, Pt.locs, Pt.cells, Pt.slots] at X1 l1 y1 z1 st1 hQ1
  subst l1 y1 z1
  obtain ⟨rfl, N1q, e1⟩ := hQ1
  have N1 := Fr.app N0 N1q
  refine own_go (B := T1.setTop (mkF m 7 (LS_RIRR r0 p1 r2 r3) [(.ref wm), (.ref r3), (.ref r2), (.int p1), (.ref r0)])) (fun t k => st1 _ k) ?_
  obtain ⟨_, _, ⟨T2, L2, k2, n2⟩, -, X2, ⟨Lc2, hQ2, l2, y2, z2⟩, st2⟩ := X1.specialBack hx (y := (⟨"com/example/weighted_scheduler/weightedscheduler/ApiError", "<init>", "(ILjava/lang/String;Ljava/lang/String;Ljava/util/Map;)V"⟩ : MethodName)) rfl hown (mvT hZ (hw _ (List.mem_of_getElem? (i := 47) rfl))) (mvT hZ (hw _ (List.mem_of_getElem? (i := 48) rfl))) (mvT hZ (hw _ (List.mem_of_getElem? (i := 49) rfl))) (by decide) (backOfKL (W := 0) (rmae4 l Z a0 hw [] r0 p1 r2 r3 wm uu sn h0 n0 Z0 E0 U0 FB SU SS g_r0 hl) hZ (hw _ (List.mem_of_getElem? (i := 49) rfl)) (hw _ (List.mem_of_getElem? (i := 30) rfl)) (by decide) (by decide) hK.1 hK.2) (g := (mkF m 7 (LS_RIRR r0 p1 r2 r3) [(.ref wm), (.ref r3), (.ref r2), (.int p1), (.ref r0)])) rfl (by rw [hml]; rfl) (Steps.refl _) (a := r0) (argsL := [(.int p1), (.ref r2), (.ref r3), (.ref wm)]) (rest := []) (lenOf pd__ILjava_lang_String_Ljava_lang_String_Ljava_util_Map__V rfl) rfl (by show 2 * 0 + _ ≤ _; exact Nat.le_of_eq rfl) (hb hby d4_7) (fun _ _ => ⟨rfl, e1, (by decide : 0 + 1 ≤ _), (by decide : 0 + 2752 ≤ _)⟩)
  dsimp only [Pt.U, Pt.locs, Pt.cells, Pt.slots] at X2 l2 y2 z2 st2 hQ2
  subst l2 y2 z2
  obtain ⟨rfl, N2q, K2⟩ := hQ2
  have N2 := Fr.app N1 N2q
  refine own_go (B := T2.setTop (mkF m 10 (LS_RIRR r0 p1 r2 r3) [])) (fun t k => st2.trans k) ?_
  obtain ⟨fs, hr, hrun, hended, hW, hsame⟩ := X2.leave (v := none) (fun _ => rfl) (BodyLoose.notSynchronized Bd)
  refine ⟨_, _, ?_, hrun, hended, _, _, rfl, ?_, ⟨_, rfl⟩, hW, hsame.mono (by decide) (by decide)⟩
  · show Steps p.tables e below (T2.setTop (mkF m 10 (LS_RIRR r0 p1 r2 r3) [])) _
    exact X2.returnOut hx Bd.returns (hb hby d4_10) hr
  · show Qae3 Z r0 p1 r2 r3 wm uu sn h0 n0 _ T2.heap _
    have K0_v3 := K0.trans K2 (allS (Or.inl (List.mem_of_getElem? (i := 0) rfl)) all0)
    exact ⟨rfl, N2, K0_v3⟩
theorem own_strs {Z : State} {a0 : Array Value} (hw : ∀ d ∈ tables_1, d.before a0 Z = true) : ∀ a ∈ Bundle.stringAtoms, a.before a0 Z = true := by
  intro d hd
  simp only [Bundle.stringAtoms, List.mem_cons, List.not_mem_nil, or_false] at hd
  rcases hd with rfl | rfl | rfl | rfl | rfl | rfl | rfl
  · exact hw _ (List.mem_of_getElem? (i := 32) rfl)
  · exact hw _ (List.mem_of_getElem? (i := 33) rfl)
  · exact hw _ (List.mem_of_getElem? (i := 18) rfl)
  · exact hw _ (List.mem_of_getElem? (i := 34) rfl)
  · exact hw _ (List.mem_of_getElem? (i := 35) rfl)
  · exact hw _ (List.mem_of_getElem? (i := 36) rfl)
  · exact hw _ (List.mem_of_getElem? (i := 37) rfl)
theorem ef_0 (m : MethodId) (p0 : Int32) (q1 : Int64) (q2 : Int64) (q3 : Int64) (p4 : Int32) : entryFrame m #[(.int p0), (.long q1), (.long q2), (.long q3), (.int p4)] maxLocals = mkF m 0 #[.val (.int p0), .val (.long q1), .second, .val (.long q2), .second, .val (.long q3), .second, .val (.int p4), .unset, .unset, .unset, .unset, .unset, .unset, .unset, .unset] [] := by first | (simp [entryFrame, mkF, argsToLocals, Value.category, maxLocals]; done) | rfl
theorem pn_0 : plainName "com/example/weighted_scheduler/weightedscheduler/RequestBodyRefusePinLaw" = true := by first | (simp [plainName, overriddenIn]; done) | decide +kernel
abbrev LS_IJsJsJsIuuuuuuuu (a0 : Int32) (a1 : Int64) (a2 : Int64) (a3 : Int64) (a4 : Int32) : Array Slot := #[.val (.int a0), .val (.long a1), .second, .val (.long a2), .second, .val (.long a3), .second, .val (.int a4), .unset, .unset, .unset, .unset, .unset, .unset, .unset, .unset]
theorem pd__J_V : parseMethodDescriptor "(J)V" = some ⟨[.long], none⟩ := by decide +kernel
abbrev LS_IJsJsJsIRuuuuuuu (a0 : Int32) (a1 : Int64) (a2 : Int64) (a3 : Int64) (a4 : Int32) (a5 : Addr) : Array Slot := #[.val (.int a0), .val (.long a1), .second, .val (.long a2), .second, .val (.long a3), .second, .val (.int a4), .val (.ref a5), .unset, .unset, .unset, .unset, .unset, .unset, .unset]
theorem pd__JJLcom_example_weighted_scheduler_weightedscheduler_HeapShare__V : parseMethodDescriptor "(JJLcom/example/weighted_scheduler/weightedscheduler/HeapShare;)V" = some ⟨[.long, .long, (.object "com/example/weighted_scheduler/weightedscheduler/HeapShare")], none⟩ := by decide +kernel
abbrev LS_IJsJsJsIRRuuuuuu (a0 : Int32) (a1 : Int64) (a2 : Int64) (a3 : Int64) (a4 : Int32) (a5 : Addr) (a6 : Addr) : Array Slot := #[.val (.int a0), .val (.long a1), .second, .val (.long a2), .second, .val (.long a3), .second, .val (.int a4), .val (.ref a5), .val (.ref a6), .unset, .unset, .unset, .unset, .unset, .unset]
theorem pd__ILjava_lang_String_Ljava_lang_String__V : parseMethodDescriptor "(ILjava/lang/String;Ljava/lang/String;)V" = some ⟨[.int, (.object "java/lang/String"), (.object "java/lang/String")], none⟩ := by decide +kernel
abbrev LS_IJsJsJsIRRRuuuuu (a0 : Int32) (a1 : Int64) (a2 : Int64) (a3 : Int64) (a4 : Int32) (a5 : Addr) (a6 : Addr) (a7 : Addr) : Array Slot := #[.val (.int a0), .val (.long a1), .second, .val (.long a2), .second, .val (.long a3), .second, .val (.int a4), .val (.ref a5), .val (.ref a6), .val (.ref a7), .unset, .unset, .unset, .unset, .unset]
theorem pd___Z : parseMethodDescriptor "()Z" = some ⟨[], some .boolean⟩ := by decide +kernel
abbrev LS_IJsJsJsIRRRIuuuu (a0 : Int32) (a1 : Int64) (a2 : Int64) (a3 : Int64) (a4 : Int32) (a5 : Addr) (a6 : Addr) (a7 : Addr) (a8 : Int32) : Array Slot := #[.val (.int a0), .val (.long a1), .second, .val (.long a2), .second, .val (.long a3), .second, .val (.int a4), .val (.ref a5), .val (.ref a6), .val (.ref a7), .val (.int a8), .unset, .unset, .unset, .unset]
abbrev LS_IJsJsJsIRRRIIuuu (a0 : Int32) (a1 : Int64) (a2 : Int64) (a3 : Int64) (a4 : Int32) (a5 : Addr) (a6 : Addr) (a7 : Addr) (a8 : Int32) (a9 : Int32) : Array Slot := #[.val (.int a0), .val (.long a1), .second, .val (.long a2), .second, .val (.long a3), .second, .val (.int a4), .val (.ref a5), .val (.ref a6), .val (.ref a7), .val (.int a8), .val (.int a9), .unset, .unset, .unset]
abbrev LS_IJsJsJsIRRRIInuu (a0 : Int32) (a1 : Int64) (a2 : Int64) (a3 : Int64) (a4 : Int32) (a5 : Addr) (a6 : Addr) (a7 : Addr) (a8 : Int32) (a9 : Int32) : Array Slot := #[.val (.int a0), .val (.long a1), .second, .val (.long a2), .second, .val (.long a3), .second, .val (.int a4), .val (.ref a5), .val (.ref a6), .val (.ref a7), .val (.int a8), .val (.int a9), .val .null, .unset, .unset]
theorem pd__Lcom_example_weighted_scheduler_weightedscheduler_ApiError__V : parseMethodDescriptor "(Lcom/example/weighted_scheduler/weightedscheduler/ApiError;)V" = some ⟨[(.object "com/example/weighted_scheduler/weightedscheduler/ApiError")], none⟩ := by decide +kernel
abbrev LS_IJsJsJsIRRRIInnu (a0 : Int32) (a1 : Int64) (a2 : Int64) (a3 : Int64) (a4 : Int32) (a5 : Addr) (a6 : Addr) (a7 : Addr) (a8 : Int32) (a9 : Int32) : Array Slot := #[.val (.int a0), .val (.long a1), .second, .val (.long a2), .second, .val (.long a3), .second, .val (.int a4), .val (.ref a5), .val (.ref a6), .val (.ref a7), .val (.int a8), .val (.int a9), .val .null, .val .null, .unset]
abbrev LS_IJsJsJsIRRRIInnn (a0 : Int32) (a1 : Int64) (a2 : Int64) (a3 : Int64) (a4 : Int32) (a5 : Addr) (a6 : Addr) (a7 : Addr) (a8 : Int32) (a9 : Int32) : Array Slot := #[.val (.int a0), .val (.long a1), .second, .val (.long a2), .second, .val (.long a3), .second, .val (.int a4), .val (.ref a5), .val (.ref a6), .val (.ref a7), .val (.int a8), .val (.int a9), .val .null, .val .null, .val .null]
abbrev LS_IJsJsJsIRRRIInnR (a0 : Int32) (a1 : Int64) (a2 : Int64) (a3 : Int64) (a4 : Int32) (a5 : Addr) (a6 : Addr) (a7 : Addr) (a8 : Int32) (a9 : Int32) (a10 : Addr) : Array Slot := #[.val (.int a0), .val (.long a1), .second, .val (.long a2), .second, .val (.long a3), .second, .val (.int a4), .val (.ref a5), .val (.ref a6), .val (.ref a7), .val (.int a8), .val (.int a9), .val .null, .val .null, .val (.ref a10)]
abbrev LS_IJsJsJsIRRRIInRu (a0 : Int32) (a1 : Int64) (a2 : Int64) (a3 : Int64) (a4 : Int32) (a5 : Addr) (a6 : Addr) (a7 : Addr) (a8 : Int32) (a9 : Int32) (a10 : Addr) : Array Slot := #[.val (.int a0), .val (.long a1), .second, .val (.long a2), .second, .val (.long a3), .second, .val (.int a4), .val (.ref a5), .val (.ref a6), .val (.ref a7), .val (.int a8), .val (.int a9), .val .null, .val (.ref a10), .unset]
abbrev LS_IJsJsJsIRRRIInRn (a0 : Int32) (a1 : Int64) (a2 : Int64) (a3 : Int64) (a4 : Int32) (a5 : Addr) (a6 : Addr) (a7 : Addr) (a8 : Int32) (a9 : Int32) (a10 : Addr) : Array Slot := #[.val (.int a0), .val (.long a1), .second, .val (.long a2), .second, .val (.long a3), .second, .val (.int a4), .val (.ref a5), .val (.ref a6), .val (.ref a7), .val (.int a8), .val (.int a9), .val .null, .val (.ref a10), .val .null]
abbrev LS_IJsJsJsIRRRIInRR (a0 : Int32) (a1 : Int64) (a2 : Int64) (a3 : Int64) (a4 : Int32) (a5 : Addr) (a6 : Addr) (a7 : Addr) (a8 : Int32) (a9 : Int32) (a10 : Addr) (a11 : Addr) : Array Slot := #[.val (.int a0), .val (.long a1), .second, .val (.long a2), .second, .val (.long a3), .second, .val (.int a4), .val (.ref a5), .val (.ref a6), .val (.ref a7), .val (.int a8), .val (.int a9), .val .null, .val (.ref a10), .val (.ref a11)]
abbrev LS_IJsJsJsIRRRIIRuu (a0 : Int32) (a1 : Int64) (a2 : Int64) (a3 : Int64) (a4 : Int32) (a5 : Addr) (a6 : Addr) (a7 : Addr) (a8 : Int32) (a9 : Int32) (a10 : Addr) : Array Slot := #[.val (.int a0), .val (.long a1), .second, .val (.long a2), .second, .val (.long a3), .second, .val (.int a4), .val (.ref a5), .val (.ref a6), .val (.ref a7), .val (.int a8), .val (.int a9), .val (.ref a10), .unset, .unset]
abbrev LS_IJsJsJsIRRRIIRnu (a0 : Int32) (a1 : Int64) (a2 : Int64) (a3 : Int64) (a4 : Int32) (a5 : Addr) (a6 : Addr) (a7 : Addr) (a8 : Int32) (a9 : Int32) (a10 : Addr) : Array Slot := #[.val (.int a0), .val (.long a1), .second, .val (.long a2), .second, .val (.long a3), .second, .val (.int a4), .val (.ref a5), .val (.ref a6), .val (.ref a7), .val (.int a8), .val (.int a9), .val (.ref a10), .val .null, .unset]
abbrev LS_IJsJsJsIRRRIIRnn (a0 : Int32) (a1 : Int64) (a2 : Int64) (a3 : Int64) (a4 : Int32) (a5 : Addr) (a6 : Addr) (a7 : Addr) (a8 : Int32) (a9 : Int32) (a10 : Addr) : Array Slot := #[.val (.int a0), .val (.long a1), .second, .val (.long a2), .second, .val (.long a3), .second, .val (.int a4), .val (.ref a5), .val (.ref a6), .val (.ref a7), .val (.int a8), .val (.int a9), .val (.ref a10), .val .null, .val .null]
abbrev LS_IJsJsJsIRRRIIRnR (a0 : Int32) (a1 : Int64) (a2 : Int64) (a3 : Int64) (a4 : Int32) (a5 : Addr) (a6 : Addr) (a7 : Addr) (a8 : Int32) (a9 : Int32) (a10 : Addr) (a11 : Addr) : Array Slot := #[.val (.int a0), .val (.long a1), .second, .val (.long a2), .second, .val (.long a3), .second, .val (.int a4), .val (.ref a5), .val (.ref a6), .val (.ref a7), .val (.int a8), .val (.int a9), .val (.ref a10), .val .null, .val (.ref a11)]
abbrev LS_IJsJsJsIRRRIIRRu (a0 : Int32) (a1 : Int64) (a2 : Int64) (a3 : Int64) (a4 : Int32) (a5 : Addr) (a6 : Addr) (a7 : Addr) (a8 : Int32) (a9 : Int32) (a10 : Addr) (a11 : Addr) : Array Slot := #[.val (.int a0), .val (.long a1), .second, .val (.long a2), .second, .val (.long a3), .second, .val (.int a4), .val (.ref a5), .val (.ref a6), .val (.ref a7), .val (.int a8), .val (.int a9), .val (.ref a10), .val (.ref a11), .unset]
abbrev LS_IJsJsJsIRRRIIRRn (a0 : Int32) (a1 : Int64) (a2 : Int64) (a3 : Int64) (a4 : Int32) (a5 : Addr) (a6 : Addr) (a7 : Addr) (a8 : Int32) (a9 : Int32) (a10 : Addr) (a11 : Addr) : Array Slot := #[.val (.int a0), .val (.long a1), .second, .val (.long a2), .second, .val (.long a3), .second, .val (.int a4), .val (.ref a5), .val (.ref a6), .val (.ref a7), .val (.int a8), .val (.int a9), .val (.ref a10), .val (.ref a11), .val .null]
abbrev LS_IJsJsJsIRRRIIRRR (a0 : Int32) (a1 : Int64) (a2 : Int64) (a3 : Int64) (a4 : Int32) (a5 : Addr) (a6 : Addr) (a7 : Addr) (a8 : Int32) (a9 : Int32) (a10 : Addr) (a11 : Addr) (a12 : Addr) : Array Slot := #[.val (.int a0), .val (.long a1), .second, .val (.long a2), .second, .val (.long a3), .second, .val (.int a4), .val (.ref a5), .val (.ref a6), .val (.ref a7), .val (.int a8), .val (.int a9), .val (.ref a10), .val (.ref a11), .val (.ref a12)]
def Q0 (Z : State) (p0 : Int32) (q1 : Int64) (q2 : Int64) (q3 : Int64) (p4 : Int32) (wm uu sn : Addr) (h0 : Heap) (n0 : Nat) (v : Option Value) (h : Heap) (L : List Loc) : Prop := v = some (.int (1 : Int32)) ∧ Fr n0 L
set_option maxRecDepth 65536 in
set_option maxHeartbeats 40000000 in
theorem rm0 (l : Launch) (Z : State) (a0 : Array Value) (hw : ∀ d ∈ tables_1, d.before a0 Z = true) (ws : List Jvm.Cond) (p0 : Int32) (q1 : Int64) (q2 : Int64) (q3 : Int64) (p4 : Int32) (wm uu sn : Addr) (h0 : Heap) (n0 : Nat) (Z0 : n0 ≤ h0.size) (SM : Sta Z h0 "java/util/ImmutableCollections" "EMPTY_MAP" "Ljava/util/ImmutableCollections$MapN;" (.ref wm)) (SU : Sta Z h0 "java/lang/Throwable" "UNASSIGNED_STACK" "[Ljava/lang/StackTraceElement;" (.ref uu)) (SS : Sta Z h0 "java/lang/Throwable" "SUPPRESSED_SENTINEL" "Ljava/util/List;" (.ref sn)) (hl : l.flags = pinnedFlags) :
    MetFree l x (head1 (Jvm.Cond.code x code maxLocals ret :: ws) room_1) (fun a U => a = #[(.int p0), (.long q1), (.long q2), (.long q3), (.int p4)] ∧ Z.Warmed39 U.vm ∧ U.heap = h0) (fun _ _ bl s _ => s.vm.MethodsKnown ∧ s.vm.FramesKnown bl) (fun _ U o U' => ∃ v L, o = .returned v ∧ Q0 Z p0 q1 q2 q3 p4 wm uu sn h0 n0 v U'.heap L ∧ ReturnedEndW U o U' L room_1.cells room_1.slots) := by
  refine MetFree.of_bodySF (plainFor_of_name pn_0) hisR ?_
  intro p e s m args below meth c s₁ Bd hml0 hP hK
  obtain ⟨rfl, hZ, hh⟩ := hP
  have hx := Bd.exec
  have hby := Bd.bytes
  have hml : c.maxLocals = 16 := hml0
  have hown : s.vm.findClass "com/example/weighted_scheduler/weightedscheduler/RequestBodyRefusePinLaw" = some m.cls := findClass_of_methodNamed Bd.named
  have hnm := (name_of_methodNamed Bd.named Bd.method).1
  have X0 : Stand p l e room_1 s m #[(.int p0), (.long q1), (.long q2), (.long q3), (.int p4)] below meth c s₁ [] 0 0 := Stand.of_body Bd
  have e0 : s₁.heap = h0 := by rw [← hh, Bd.state]; rfl
  have N0 := Fr.nil n0
  refine own_go (B := s₁.setTop (mkF m 0 (LS_IJsJsJsIuuuuuuuu p0 q1 q2 q3 p4) [])) (fun t k => castTop (ef_0 m p0 q1 q2 q3 p4) k) ?_
  have hZb := hZ
  have hS0 : s.Since s.vm 0 := (State.WarmedH.refl s).since 0
  have hk0 : 0 ≤ Array.size h0 := Nat.zero_le _
  obtain ⟨T1, h1, X1, e1, E1, A1, D1, U1, st1⟩ := newO X0 hx hZ hown (hw _ (List.mem_of_getElem? (i := 0) rfl)) (hw _ (List.mem_of_getElem? (i := 1) rfl)) (hw _ (List.mem_of_getElem? (i := 2) rfl)) e0 (g := (mkF m 0 (LS_IJsJsJsIuuuuuuuu p0 q1 q2 q3 p4) [])) rfl (hb hby at_0) (by decide) (by decide)
  obtain ⟨b1, g1⟩ : ∃ z, z = h0.size := ⟨_, rfl⟩
  rw [← g1] at A1 D1 U1 st1
  have g_b1 : n0 ≤ b1 := Nat.le_trans Z0 (Nat.le_of_eq g1.symm)
  have F1_capacity : Fld Z h1 b1 "com/example/weighted_scheduler/weightedscheduler/HeapShare" "capacity" "J" (.long (0 : Int64)) := D1 (Or.inr (hw _ (List.mem_of_getElem? (i := 10) rfl))) (ty := .long) (by decide)
  refine own_go (B := T1.setTop (mkF m 3 (LS_IJsJsJsIuuuuuuuu p0 q1 q2 q3 p4) [(.ref b1)])) (fun t k => st1 _ k) ?_
  refine own_go (B := T1.setTop (mkF m 6 (LS_IJsJsJsIuuuuuuuu p0 q1 q2 q3 p4) [(.long q3), (.ref b1), (.ref b1)])) (fun t k => ?_) ?_
  · refine XS.dup X1.here hx rfl (hb hby at_3) rfl rfl ?_
    refine XS.lload X1.here hx rfl (hb hby at_4) rfl ?_
    exact k
  have Z0_v2 := Nat.le_trans Z0 E1.1
  obtain ⟨_, _, ⟨T3, L3, k3, n3⟩, -, X3, ⟨Lc3, hQ3, l3, y3, z3⟩, st3⟩ := X1.specialBack hx (y := (⟨"com/example/weighted_scheduler/weightedscheduler/HeapShare", "<init>", "(J)V"⟩ : MethodName)) rfl hown (mvT hZ (hw _ (List.mem_of_getElem? (i := 3) rfl))) (mvT hZ (hw _ (List.mem_of_getElem? (i := 4) rfl))) (mvT hZ (hw _ (List.mem_of_getElem? (i := 5) rfl))) (by decide) (backOf (W := 1) (rmhsi l Z a0 hw [] b1 q3 h1 n0 Z0_v2 A1 F1_capacity g_b1) hZ (hw _ (List.mem_of_getElem? (i := 5) rfl)) (hw _ (List.mem_of_getElem? (i := 2) rfl)) (by decide) (by decide)) (g := (mkF m 6 (LS_IJsJsJsIuuuuuuuu p0 q1 q2 q3 p4) [(.long q3), (.ref b1), (.ref b1)])) rfl (by rw [hml]; rfl) (Steps.refl _) (a := b1) (argsL := [(.long q3)]) (rest := [(.ref b1)]) (lenOf pd__J_V rfl) rfl (by show 2 * 0 + _ ≤ _; exact Nat.le_of_eq rfl) (hb hby at_6) (fun _ _ => ⟨rfl, e1, (by decide : 1 + 0 ≤ _), (by decide : 2 + 0 ≤ _)⟩)
  dsimp only [Pt.U, Pt.locs, Pt.cells, Pt.slots] at X3 l3 y3 z3 st3 hQ3
  subst l3 y3 z3
  obtain ⟨rfl, N3q, K3⟩ := hQ3
  have N3 := Fr.app N0 N3q
  refine own_go (B := T3.setTop (mkF m 9 (LS_IJsJsJsIuuuuuuuu p0 q1 q2 q3 p4) [(.ref b1)])) (fun t k => st3.trans k) ?_
  refine own_go (B := T3.setTop (mkF m 11 (LS_IJsJsJsIRuuuuuuu p0 q1 q2 q3 p4 b1) [])) (fun t k => ?_) ?_
  · refine XS.astore X3.here hx rfl (hb hby at_9) rfl rfl (l' := (LS_IJsJsJsIRuuuuuuu p0 q1 q2 q3 p4 b1)) rfl ?_
    exact k
  obtain ⟨T4, h4, X4, e4, E4, A4, D4, U4, st4⟩ := newO X3 hx hZ hown (hw _ (List.mem_of_getElem? (i := 11) rfl)) (hw _ (List.mem_of_getElem? (i := 12) rfl)) (hw _ (List.mem_of_getElem? (i := 13) rfl)) rfl (g := (mkF m 11 (LS_IJsJsJsIRuuuuuuu p0 q1 q2 q3 p4 b1) [])) rfl (hb hby at_11) (by decide) (by decide)
  obtain ⟨b4, g4⟩ : ∃ z, z = T3.heap.size := ⟨_, rfl⟩
  rw [← g4] at A4 D4 U4 st4
  have Z0_v5 := Nat.le_trans Z0_v2 K3.1
  have g_b4 : n0 ≤ b4 := Nat.le_trans Z0_v5 (Nat.le_of_eq g4.symm)
  have F4_bytes : Fld Z h4 b4 "com/example/weighted_scheduler/weightedscheduler/RequestBody" "bytes" "[B" .null := D4 (Or.inl (hw _ (List.mem_of_getElem? (i := 20) rfl))) (ty := (.array .byte)) (by decide)
  have F4_startedAt : Fld Z h4 b4 "com/example/weighted_scheduler/weightedscheduler/RequestBody" "startedAt" "J" (.long (0 : Int64)) := D4 (Or.inr (hw _ (List.mem_of_getElem? (i := 22) rfl))) (ty := .long) (by decide)
  have F4_longest : Fld Z h4 b4 "com/example/weighted_scheduler/weightedscheduler/RequestBody" "longest" "I" (.int (0 : Int32)) := D4 (Or.inr (hw _ (List.mem_of_getElem? (i := 25) rfl))) (ty := .int) (by decide)
  have F4_memory : Fld Z h4 b4 "com/example/weighted_scheduler/weightedscheduler/RequestBody" "memory" "Lcom/example/weighted_scheduler/weightedscheduler/HeapShare;" .null := D4 (Or.inr (hw _ (List.mem_of_getElem? (i := 27) rfl))) (ty := (.object "com/example/weighted_scheduler/weightedscheduler/HeapShare")) (by decide)
  have F4_refusal : Fld Z h4 b4 "com/example/weighted_scheduler/weightedscheduler/RequestBody" "refusal" "Lcom/example/weighted_scheduler/weightedscheduler/ApiError;" .null := D4 (Or.inl (hw _ (List.mem_of_getElem? (i := 116) rfl))) (ty := (.object "com/example/weighted_scheduler/weightedscheduler/ApiError")) (by decide)
  have F4_shortOfMemory : Fld Z h4 b4 "com/example/weighted_scheduler/weightedscheduler/RequestBody" "shortOfMemory" "Z" (.int (0 : Int32)) := D4 (Or.inl (hw _ (List.mem_of_getElem? (i := 118) rfl))) (ty := .boolean) (by decide)
  refine own_go (B := T4.setTop (mkF m 14 (LS_IJsJsJsIRuuuuuuu p0 q1 q2 q3 p4 b1) [(.ref b4)])) (fun t k => st4 _ k) ?_
  refine own_go (B := T4.setTop (mkF m 19 (LS_IJsJsJsIRuuuuuuu p0 q1 q2 q3 p4 b1) [(.ref b1), (.long q2), (.long q1), (.ref b4), (.ref b4)])) (fun t k => ?_) ?_
  · refine XS.dup X4.here hx rfl (hb hby at_14) rfl rfl ?_
    refine XS.lloadN X4.here hx rfl (hb hby at_15) rfl ?_
    show Steps p.tables e below (T4.setTop (mkF m 16 (LS_IJsJsJsIRuuuuuuu p0 q1 q2 q3 p4 b1) [(.long q1), (.ref b4), (.ref b4)])) _
    refine XS.lloadN X4.here hx rfl (hb hby at_16) rfl ?_
    refine XS.aload X4.here hx rfl (hb hby at_17) rfl rfl ?_
    exact k
  have Z0_v6 := Nat.le_trans Z0_v5 E4.1
  obtain ⟨_, _, ⟨T7, L7, k7, n7⟩, -, X7, ⟨Lc7, hQ7, l7, y7, z7⟩, st7⟩ := X4.specialBack hx (y := (⟨"com/example/weighted_scheduler/weightedscheduler/RequestBody", "<init>", "(JJLcom/example/weighted_scheduler/weightedscheduler/HeapShare;)V"⟩ : MethodName)) rfl hown (mvT hZ (hw _ (List.mem_of_getElem? (i := 14) rfl))) (mvT hZ (hw _ (List.mem_of_getElem? (i := 15) rfl))) (mvT hZ (hw _ (List.mem_of_getElem? (i := 16) rfl))) (by decide) (backOf (W := 1) (rmrbi l Z a0 hw [] b4 q1 q2 b1 h4 n0 Z0_v6 A4 F4_bytes F4_startedAt F4_longest F4_memory F4_refusal F4_shortOfMemory g_b4) hZ (hw _ (List.mem_of_getElem? (i := 16) rfl)) (hw _ (List.mem_of_getElem? (i := 13) rfl)) (by decide) (by decide)) (g := (mkF m 19 (LS_IJsJsJsIRuuuuuuu p0 q1 q2 q3 p4 b1) [(.ref b1), (.long q2), (.long q1), (.ref b4), (.ref b4)])) rfl (by rw [hml]; rfl) (Steps.refl _) (a := b4) (argsL := [(.long q1), (.long q2), (.ref b1)]) (rest := [(.ref b4)]) (lenOf pd__JJLcom_example_weighted_scheduler_weightedscheduler_HeapShare__V rfl) rfl (by show 2 * 0 + _ ≤ _; exact Nat.le_of_eq rfl) (hb hby at_19) (fun _ _ => ⟨rfl, e4, (by decide : 2 + 1 ≤ _), (by decide : 10 + 0 ≤ _)⟩)
  dsimp only [Pt.U, Pt.locs, Pt.cells, Pt.slots] at X7 l7 y7 z7 st7 hQ7
  subst l7 y7 z7
  obtain ⟨rfl, N7q, K7, Fr7, Fs7⟩ := hQ7
  have N7 := Fr.app N3 N7q
  refine own_go (B := T7.setTop (mkF m 22 (LS_IJsJsJsIRuuuuuuu p0 q1 q2 q3 p4 b1) [(.ref b4)])) (fun t k => st7.trans k) ?_
  refine own_go (B := T7.setTop (mkF m 24 (LS_IJsJsJsIRRuuuuuu p0 q1 q2 q3 p4 b1 b4) [])) (fun t k => ?_) ?_
  · refine XS.astore X7.here hx rfl (hb hby at_22) rfl rfl (l' := (LS_IJsJsJsIRRuuuuuu p0 q1 q2 q3 p4 b1 b4)) rfl ?_
    exact k
  obtain ⟨T8, h8, X8, e8, E8, A8, D8, U8, st8⟩ := newO X7 hx hZ hown (hw _ (List.mem_of_getElem? (i := 28) rfl)) (hw _ (List.mem_of_getElem? (i := 29) rfl)) (hw _ (List.mem_of_getElem? (i := 30) rfl)) rfl (g := (mkF m 24 (LS_IJsJsJsIRRuuuuuu p0 q1 q2 q3 p4 b1 b4) [])) rfl (hb hby at_24) (by decide) (by decide)
  obtain ⟨b8, g8⟩ : ∃ z, z = T7.heap.size := ⟨_, rfl⟩
  rw [← g8] at A8 D8 U8 st8
  have Z0_v9 := Nat.le_trans Z0_v6 K7.1
  have g_b8 : n0 ≤ b8 := Nat.le_trans Z0_v9 (Nat.le_of_eq g8.symm)
  have F8_cause : Fld Z h8 b8 "java/lang/Throwable" "cause" "Ljava/lang/Throwable;" .null := D8 (Or.inl (hw _ (List.mem_of_getElem? (i := 69) rfl))) (ty := (.object "java/lang/Throwable")) (by decide)
  have F8_stackTrace : Fld Z h8 b8 "java/lang/Throwable" "stackTrace" "[Ljava/lang/StackTraceElement;" .null := D8 (Or.inl (hw _ (List.mem_of_getElem? (i := 72) rfl))) (ty := (.array (.object "java/lang/StackTraceElement"))) (by decide)
  have F8_suppressedExceptions : Fld Z h8 b8 "java/lang/Throwable" "suppressedExceptions" "Ljava/util/List;" .null := D8 (Or.inl (hw _ (List.mem_of_getElem? (i := 75) rfl))) (ty := (.object "java/util/List")) (by decide)
  have F8_detailMessage : Fld Z h8 b8 "java/lang/Throwable" "detailMessage" "Ljava/lang/String;" .null := D8 (Or.inl (hw _ (List.mem_of_getElem? (i := 99) rfl))) (ty := (.object "java/lang/String")) (by decide)
  have F8_backtrace : Fld Z h8 b8 "java/lang/Throwable" "backtrace" "Ljava/lang/Object;" .null := D8 (Or.inl (hw _ (List.mem_of_getElem? (i := 100) rfl))) (ty := (.object "java/lang/Object")) (by decide)
  have F8_depth : Fld Z h8 b8 "java/lang/Throwable" "depth" "I" (.int (0 : Int32)) := D8 (Or.inl (hw _ (List.mem_of_getElem? (i := 101) rfl))) (ty := .int) (by decide)
  have F8_status : Fld Z h8 b8 "com/example/weighted_scheduler/weightedscheduler/ApiError" "status" "I" (.int (0 : Int32)) := D8 (Or.inr (hw _ (List.mem_of_getElem? (i := 105) rfl))) (ty := .int) (by decide)
  have F8_code : Fld Z h8 b8 "com/example/weighted_scheduler/weightedscheduler/ApiError" "code" "Ljava/lang/String;" .null := D8 (Or.inr (hw _ (List.mem_of_getElem? (i := 107) rfl))) (ty := (.object "java/lang/String")) (by decide)
  have F8_members : Fld Z h8 b8 "com/example/weighted_scheduler/weightedscheduler/ApiError" "members" "Ljava/util/Map;" .null := D8 (Or.inr (hw _ (List.mem_of_getElem? (i := 109) rfl))) (ty := (.object "java/util/Map")) (by decide)
  refine own_go (B := T8.setTop (mkF m 27 (LS_IJsJsJsIRRuuuuuu p0 q1 q2 q3 p4 b1 b4) [(.ref b8)])) (fun t k => st8 _ k) ?_
  refine own_go (B := T8.setTop (mkF m 30 (LS_IJsJsJsIRRuuuuuu p0 q1 q2 q3 p4 b1 b4) [(.int p4), (.ref b8), (.ref b8)])) (fun t k => ?_) ?_
  · refine XS.dup X8.here hx rfl (hb hby at_27) rfl rfl ?_
    refine XS.iload X8.here hx rfl (hb hby at_28) rfl ?_
    exact k
  have hk0_v11 := Nat.le_trans hk0 E1.1
  have hk0_v12 := Nat.le_trans hk0_v11 K3.1
  have hk0_v13 := Nat.le_trans hk0_v12 E4.1
  have hk0_v14 := Nat.le_trans hk0_v13 K7.1
  have hk0_v15 := Nat.le_trans hk0_v14 E8.1
  obtain ⟨sa10, T10, h10, kk10, X10, e10, E10, hS10, hk10, hZ10, ho10, st10⟩ := ldcS (s := s) (vm0 := s.vm) X8 hx hZ hown (hw _ (List.mem_of_getElem? (i := 31) rfl)) (own_strs hw) e8 hS0 hk0_v15 (g := (mkF m 30 (LS_IJsJsJsIRRuuuuuu p0 q1 q2 q3 p4 b1 b4) [(.int p4), (.ref b8), (.ref b8)])) rfl (hb hby at_30) (n := 28) (by decide) (by decide) (by decide) (by decide)
  refine own_go (B := T10.setTop (mkF m 32 (LS_IJsJsJsIRRuuuuuu p0 q1 q2 q3 p4 b1 b4) [(.ref sa10), (.int p4), (.ref b8), (.ref b8)])) (fun t k => st10 _ k) ?_
  obtain ⟨sa16, T16, h16, kk16, X16, e16, E16, hS16, hk16, hZ16, ho16, st16⟩ := ldcS (s := s) (vm0 := T10.vm) X10 hx hZ10 ho10 (hw _ (List.mem_of_getElem? (i := 31) rfl)) (own_strs hw) e10 hS10 hk10 (g := (mkF m 32 (LS_IJsJsJsIRRuuuuuu p0 q1 q2 q3 p4 b1 b4) [(.ref sa10), (.int p4), (.ref b8), (.ref b8)])) rfl (hb hby at_32) (n := 28) (by decide) (by decide) (by decide) (by decide)
  refine own_go (B := T16.setTop (mkF m 34 (LS_IJsJsJsIRRuuuuuu p0 q1 q2 q3 p4 b1 b4) [(.ref sa16), (.ref sa10), (.int p4), (.ref b8), (.ref b8)])) (fun t k => st16 _ k) ?_
  have SM_v17 := SM.ext E1
  have SM_v18 := own_sta_keep SM_v17 K3 (allS (own_plain_E A1) all0)
  have SM_v19 := SM_v18.ext E4
  have SM_v20 := own_sta_keep SM_v19 K7 (allS (own_plain_E A4) all0)
  have SM_v21 := SM_v20.ext E8
  have SM_v22 := SM_v21.ext E10
  have SM_v23 := SM_v22.ext E16
  have Z0_v24 := Nat.le_trans Z0_v9 E8.1
  have Z0_v25 := Nat.le_trans Z0_v24 E10.1
  have Z0_v26 := Nat.le_trans Z0_v25 E16.1
  have A8_v27 := A8.ext E10
  have A8_v28 := A8_v27.ext E16
  have U8_v29 := Unt.ext E10 U8
  have U8_v30 := Unt.ext E16 U8_v29
  have F8_backtrace_v31 := F8_backtrace.ext E10
  have F8_backtrace_v32 := F8_backtrace_v31.ext E16
  have SU_v33 := SU.ext E1
  have SU_v34 := own_sta_keep SU_v33 K3 (allS (own_plain_E A1) all0)
  have SU_v35 := SU_v34.ext E4
  have SU_v36 := own_sta_keep SU_v35 K7 (allS (own_plain_E A4) all0)
  have SU_v37 := SU_v36.ext E8
  have SU_v38 := SU_v37.ext E10
  have SU_v39 := SU_v38.ext E16
  have SS_v40 := SS.ext E1
  have SS_v41 := own_sta_keep SS_v40 K3 (allS (own_plain_E A1) all0)
  have SS_v42 := SS_v41.ext E4
  have SS_v43 := own_sta_keep SS_v42 K7 (allS (own_plain_E A4) all0)
  have SS_v44 := SS_v43.ext E8
  have SS_v45 := SS_v44.ext E10
  have SS_v46 := SS_v45.ext E16
  obtain ⟨_, _, ⟨T47, L47, k47, n47⟩, -, X47, ⟨Lc47, hQ47, l47, y47, z47⟩, st47⟩ := X16.specialBack hx (y := (⟨"com/example/weighted_scheduler/weightedscheduler/ApiError", "<init>", "(ILjava/lang/String;Ljava/lang/String;)V"⟩ : MethodName)) rfl ho16 (mvT hZ16 (hw _ (List.mem_of_getElem? (i := 38) rfl))) (mvT hZ16 (hw _ (List.mem_of_getElem? (i := 39) rfl))) (mvT hZ16 (hw _ (List.mem_of_getElem? (i := 40) rfl))) (by decide) (backOfKL (W := 1) (rmae3 l Z a0 hw [] b8 p4 sa10 sa16 wm uu sn h16 n0 Z0_v26 SM_v23 A8_v28 U8_v30 F8_backtrace_v32 SU_v39 SS_v46 g_b8 hl) hZ16 (hw _ (List.mem_of_getElem? (i := 40) rfl)) (hw _ (List.mem_of_getElem? (i := 30) rfl)) (by decide) (by decide) (Vm.MethodsKnown.alikeC (hZb.alike.symm.trans hZ16.alike) hK.1) (Vm.FramesKnown.alikeC (hZb.alike.symm.trans hZ16.alike) hK.2)) (g := (mkF m 34 (LS_IJsJsJsIRRuuuuuu p0 q1 q2 q3 p4 b1 b4) [(.ref sa16), (.ref sa10), (.int p4), (.ref b8), (.ref b8)])) rfl (by rw [hml]; rfl) (Steps.refl _) (a := b8) (argsL := [(.int p4), (.ref sa10), (.ref sa16)]) (rest := [(.ref b8)]) (lenOf pd__ILjava_lang_String_Ljava_lang_String__V rfl) rfl (by show 2 * 0 + _ ≤ _; exact Nat.le_of_eq rfl) (hb hby at_34) (fun _ _ => ⟨rfl, e16, (by decide : 8 + 1 ≤ _), (by decide : 83 + 2752 ≤ _)⟩)
  dsimp only [Pt.U, Pt.locs, Pt.cells, Pt.slots] at X47 l47 y47 z47 st47 hQ47
  subst l47 y47 z47
  obtain ⟨rfl, N47q, K47⟩ := hQ47
  have N47 := Fr.app N7 N47q
  refine own_go (B := T47.setTop (mkF m 37 (LS_IJsJsJsIRRuuuuuu p0 q1 q2 q3 p4 b1 b4) [(.ref b8)])) (fun t k => st47.trans k) ?_
  refine own_go (B := T47.setTop (mkF m 41 (LS_IJsJsJsIRRRuuuuu p0 q1 q2 q3 p4 b1 b4 b8) [(.ref b4)])) (fun t k => ?_) ?_
  · refine XS.astore X47.here hx rfl (hb hby at_37) rfl rfl (l' := (LS_IJsJsJsIRRRuuuuu p0 q1 q2 q3 p4 b1 b4 b8)) rfl ?_
    refine XS.aload X47.here hx rfl (hb hby at_39) rfl rfl ?_
    exact k
  have Fr7_v48 := Fr7.ext E8
  have Fr7_v49 := Fr7_v48.ext E10
  have Fr7_v50 := Fr7_v49.ext E16
  have A4_v53 := A4.keep K7
  have A4_v54 := A4_v53.ext E8
  have ne52 : b4 ≠ b8 := Exa.ne A4_v54 A8 (by decide)
  have Fr7_v51 := Fr7_v50.keep K47 (ninS ne52 nin0)
  have Z0_v55 := Nat.le_trans Z0_v26 K47.1
  have Fs7_v56 := Fs7.ext E8
  have Fs7_v57 := Fs7_v56.ext E10
  have Fs7_v58 := Fs7_v57.ext E16
  have Fs7_v59 := Fs7_v58.keep K47 (ninS ne52 nin0)
  have A4_v61 := A4_v54.ext E10
  have A4_v62 := A4_v61.ext E16
  have A4_v63 := A4_v62.keep K47
  obtain ⟨cq60, kq60, q60a, q60b, q60c⟩ := isOf hZ16 rfl A4_v63
  obtain ⟨_, _, ⟨T60, L60, k60, n60⟩, -, X60, ⟨Lc60, hQ60, l60, y60, z60⟩, st60⟩ := X47.virtualBack hx (y := (⟨"com/example/weighted_scheduler/weightedscheduler/RequestBody", "isWhole", "()Z"⟩ : MethodName)) (z := (⟨"com/example/weighted_scheduler/weightedscheduler/RequestBody", "isWhole", "()Z"⟩ : MethodName)) ho16 (mvT hZ16 (hw _ (List.mem_of_getElem? (i := 110) rfl))) (mvT hZ16 (hw _ (List.mem_of_getElem? (i := 111) rfl))) (notFace_of_selects (args := #[]) (mvT hZ16 (hw _ (List.mem_of_getElem? (i := 113) rfl)))) (mvT hZ16 (hw _ (List.mem_of_getElem? (i := 113) rfl))) (mvT hZ16 (hw _ (List.mem_of_getElem? (i := 112) rfl))) (by decide) (backOf (W := 0) (rmiw1 l Z a0 hw [] b4 T47.heap n0 Z0_v55 Fr7_v51 Fs7_v59) hZ16 (hw _ (List.mem_of_getElem? (i := 114) rfl)) (hw _ (List.mem_of_getElem? (i := 13) rfl)) (by decide) (by decide)) q60a q60c (g := (mkF m 41 (LS_IJsJsJsIRRRuuuuu p0 q1 q2 q3 p4 b1 b4 b8) [(.ref b4)])) rfl (by rw [hml]; rfl) (Steps.refl _) (argsL := []) (rest := []) (lenOf pd___Z rfl) rfl (by show 2 * 0 + _ ≤ _; exact Nat.le_of_eq rfl) (hb hby at_41) (fun _ _ => ⟨rfl, rfl, (by decide : 9 + 0 ≤ _), (by decide : 2835 + 0 ≤ _)⟩)
  dsimp only [Pt.U, Pt.locs, Pt.cells, Pt.slots] at X60 l60 y60 z60 st60 hQ60
  subst l60 y60 z60
  obtain ⟨rfl, N60q, e60⟩ := hQ60
  have N60 := Fr.app N47 N60q
  refine own_go (B := T60.setTop (mkF m 44 (LS_IJsJsJsIRRRuuuuu p0 q1 q2 q3 p4 b1 b4 b8) [(.int (1 : Int32))])) (fun t k => st60.trans k) ?_
  refine own_go (B := T60.setTop (mkF m 52 (LS_IJsJsJsIRRRIIuuu p0 q1 q2 q3 p4 b1 b4 b8 (1 : Int32) (0 : Int32)) [(.int (p0 &&& (1 : Int32)))])) (fun t k => ?_) ?_
  · refine XS.istore X60.here hx rfl (hb hby at_44) rfl (l' := (LS_IJsJsJsIRRRIuuuu p0 q1 q2 q3 p4 b1 b4 b8 (1 : Int32))) rfl ?_
    refine XS.iconst X60.here hx rfl (hb hby at_46) ?_
    show Steps p.tables e below (T60.setTop (mkF m 47 (LS_IJsJsJsIRRRIuuuu p0 q1 q2 q3 p4 b1 b4 b8 (1 : Int32)) [(.int (0 : Int32))])) _
    refine XS.istore X60.here hx rfl (hb hby at_47) rfl (l' := (LS_IJsJsJsIRRRIIuuu p0 q1 q2 q3 p4 b1 b4 b8 (1 : Int32) (0 : Int32))) rfl ?_
    refine XS.iloadN X60.here hx rfl (hb hby at_49) rfl ?_
    refine XS.iconst X60.here hx rfl (hb hby at_50) ?_
    show Steps p.tables e below (T60.setTop (mkF m 51 (LS_IJsJsJsIRRRIIuuu p0 q1 q2 q3 p4 b1 b4 b8 (1 : Int32) (0 : Int32)) [(.int (1 : Int32)), (.int p0)])) _
    refine XS.iand X60.here hx rfl (hb hby at_51) rfl ?_
    exact k
  by_cases hc52_64 : (p0 &&& (1 : Int32)) = (0 : Int32)
  · refine own_go (B := T60.setTop (mkF m 67 (LS_IJsJsJsIRRRIInuu p0 q1 q2 q3 p4 b1 b4 b8 (1 : Int32) (0 : Int32)) [.null, (.ref b4)])) (fun t k => ?_) ?_
    · refine XS.ifYes X60.here hx rfl (pc0 := 52) (pc' := 60) rfl (hb hby at_52) rfl ((if0 _ _).trans (teq hc52_64).1) (by decide) (by decide) ?_
      refine XS.aconstNull X60.here hx rfl (hb hby at_60) ?_
      show Steps p.tables e below (T60.setTop (mkF m 61 (LS_IJsJsJsIRRRIIuuu p0 q1 q2 q3 p4 b1 b4 b8 (1 : Int32) (0 : Int32)) [.null])) _
      refine XS.astore X60.here hx rfl (hb hby at_61) rfl rfl (l' := (LS_IJsJsJsIRRRIInuu p0 q1 q2 q3 p4 b1 b4 b8 (1 : Int32) (0 : Int32))) rfl ?_
      refine XS.aload X60.here hx rfl (hb hby at_63) rfl rfl ?_
      refine XS.aload X60.here hx rfl (hb hby at_65) rfl rfl ?_
      exact k
    obtain ⟨cq65, kq65, q65a, q65b, q65c⟩ := isOf hZ16 e60 A4_v63
    obtain ⟨_, _, ⟨T65, L65, k65, n65⟩, -, X65, ⟨Lc65, hQ65, l65, y65, z65⟩, st65⟩ := X60.virtualBack hx (y := (⟨"com/example/weighted_scheduler/weightedscheduler/RequestBody", "refuse", "(Lcom/example/weighted_scheduler/weightedscheduler/ApiError;)V"⟩ : MethodName)) (z := (⟨"com/example/weighted_scheduler/weightedscheduler/RequestBody", "refuse", "(Lcom/example/weighted_scheduler/weightedscheduler/ApiError;)V"⟩ : MethodName)) ho16 (mvT hZ16 (hw _ (List.mem_of_getElem? (i := 119) rfl))) (mvT hZ16 (hw _ (List.mem_of_getElem? (i := 120) rfl))) (notFace_of_selects (args := #[]) (mvT hZ16 (hw _ (List.mem_of_getElem? (i := 122) rfl)))) (mvT hZ16 (hw _ (List.mem_of_getElem? (i := 122) rfl))) (mvT hZ16 (hw _ (List.mem_of_getElem? (i := 121) rfl))) (by decide) (backOf (W := 0) (rmrf0 l Z a0 hw [] b4 T47.heap n0 Z0_v55 A4_v63 Fr7_v51 Fs7_v59 g_b4) hZ16 (hw _ (List.mem_of_getElem? (i := 123) rfl)) (hw _ (List.mem_of_getElem? (i := 13) rfl)) (by decide) (by decide)) q65a q65c (g := (mkF m 67 (LS_IJsJsJsIRRRIInuu p0 q1 q2 q3 p4 b1 b4 b8 (1 : Int32) (0 : Int32)) [.null, (.ref b4)])) rfl (by rw [hml]; rfl) (Steps.refl _) (argsL := [.null]) (rest := []) (lenOf pd__Lcom_example_weighted_scheduler_weightedscheduler_ApiError__V rfl) rfl (by show 2 * 0 + _ ≤ _; exact Nat.le_of_eq rfl) (hb hby at_67) (fun _ _ => ⟨rfl, e60, (by decide : 9 + 0 ≤ _), (by decide : 2835 + 0 ≤ _)⟩)
    dsimp only [Pt.U, Pt.locs, Pt.cells, Pt.slots] at X65 l65 y65 z65 st65 hQ65
    subst l65 y65 z65
    obtain ⟨rfl, N65q, K65, Fr65, Fs65⟩ := hQ65
    have N65 := Fr.app N60 N65q
    refine own_go (B := T65.setTop (mkF m 70 (LS_IJsJsJsIRRRIInuu p0 q1 q2 q3 p4 b1 b4 b8 (1 : Int32) (0 : Int32)) [])) (fun t k => st65.trans k) ?_
    refine own_go (B := T65.setTop (mkF m 94 (LS_IJsJsJsIRRRIInuu p0 q1 q2 q3 p4 b1 b4 b8 (1 : Int32) (0 : Int32)) [(.ref b4)])) (fun t k => ?_) ?_
    · refine XS.iload X65.here hx rfl (hb hby at_70) rfl ?_
      refine XS.ifNo X65.here hx rfl (hb hby at_72) rfl ((if0 _ _).trans (teq (by decide : (0 : Int32) = (0 : Int32))).2) ?_
      show Steps p.tables e below (T65.setTop (mkF m 75 (LS_IJsJsJsIRRRIInuu p0 q1 q2 q3 p4 b1 b4 b8 (1 : Int32) (0 : Int32)) [])) _
      refine XS.aload X65.here hx rfl (hb hby at_75) rfl rfl ?_
      refine XS.ifnullYes X65.here hx rfl (pc0 := 77) (pc' := 84) rfl (hb hby at_77) rfl (by decide) (by decide) ?_
      refine XS.iconst X65.here hx rfl (hb hby at_84) ?_
      show Steps p.tables e below (T65.setTop (mkF m 85 (LS_IJsJsJsIRRRIInuu p0 q1 q2 q3 p4 b1 b4 b8 (1 : Int32) (0 : Int32)) [(.int (0 : Int32))])) _
      refine XS.istore X65.here hx rfl (hb hby at_85) rfl (l' := (LS_IJsJsJsIRRRIInuu p0 q1 q2 q3 p4 b1 b4 b8 (1 : Int32) (0 : Int32))) rfl ?_
      refine XS.iload X65.here hx rfl (hb hby at_87) rfl ?_
      refine XS.ifNo X65.here hx rfl (hb hby at_89) rfl ((if0 _ _).trans (feq (by decide : ¬ ((1 : Int32) = (0 : Int32)))).1) ?_
      show Steps p.tables e below (T65.setTop (mkF m 92 (LS_IJsJsJsIRRRIInuu p0 q1 q2 q3 p4 b1 b4 b8 (1 : Int32) (0 : Int32)) [])) _
      refine XS.aload X65.here hx rfl (hb hby at_92) rfl rfl ?_
      exact k
    have Z0_v66 := Nat.le_trans Z0_v55 K65.1
    have A4_v68 := A4_v63.keep K65
    obtain ⟨cq67, kq67, q67a, q67b, q67c⟩ := isOf hZ16 rfl A4_v68
    obtain ⟨_, _, ⟨T67, L67, k67, n67⟩, -, X67, ⟨Lc67, hQ67, l67, y67, z67⟩, st67⟩ := X65.virtualBack hx (y := (⟨"com/example/weighted_scheduler/weightedscheduler/RequestBody", "isWhole", "()Z"⟩ : MethodName)) (z := (⟨"com/example/weighted_scheduler/weightedscheduler/RequestBody", "isWhole", "()Z"⟩ : MethodName)) ho16 (mvT hZ16 (hw _ (List.mem_of_getElem? (i := 110) rfl))) (mvT hZ16 (hw _ (List.mem_of_getElem? (i := 111) rfl))) (notFace_of_selects (args := #[]) (mvT hZ16 (hw _ (List.mem_of_getElem? (i := 113) rfl)))) (mvT hZ16 (hw _ (List.mem_of_getElem? (i := 113) rfl))) (mvT hZ16 (hw _ (List.mem_of_getElem? (i := 112) rfl))) (by decide) (backOf (W := 0) (rmiw1 l Z a0 hw [] b4 T65.heap n0 Z0_v66 Fr65 Fs65) hZ16 (hw _ (List.mem_of_getElem? (i := 114) rfl)) (hw _ (List.mem_of_getElem? (i := 13) rfl)) (by decide) (by decide)) q67a q67c (g := (mkF m 94 (LS_IJsJsJsIRRRIInuu p0 q1 q2 q3 p4 b1 b4 b8 (1 : Int32) (0 : Int32)) [(.ref b4)])) rfl (by rw [hml]; rfl) (Steps.refl _) (argsL := []) (rest := []) (lenOf pd___Z rfl) rfl (by show 2 * 0 + _ ≤ _; exact Nat.le_of_eq rfl) (hb hby at_94) (fun _ _ => ⟨rfl, rfl, (by decide : 9 + 0 ≤ _), (by decide : 2835 + 0 ≤ _)⟩)
    dsimp only [Pt.U, Pt.locs, Pt.cells, Pt.slots] at X67 l67 y67 z67 st67 hQ67
    subst l67 y67 z67
    obtain ⟨rfl, N67q, e67⟩ := hQ67
    have N67 := Fr.app N65 N67q
    refine own_go (B := T67.setTop (mkF m 97 (LS_IJsJsJsIRRRIInuu p0 q1 q2 q3 p4 b1 b4 b8 (1 : Int32) (0 : Int32)) [(.int (1 : Int32))])) (fun t k => st67.trans k) ?_
    refine own_go (B := T67.setTop (mkF m 120 (LS_IJsJsJsIRRRIInuu p0 q1 q2 q3 p4 b1 b4 b8 (1 : Int32) (0 : Int32)) [(.int (p0 &&& (2 : Int32)))])) (fun t k => ?_) ?_
    · refine XS.iload X67.here hx rfl (hb hby at_97) rfl ?_
      refine XS.ifNo X67.here hx rfl (hb hby at_99) rfl ((if0 _ _).trans (teq (by decide : (0 : Int32) = (0 : Int32))).2) ?_
      show Steps p.tables e below (T67.setTop (mkF m 102 (LS_IJsJsJsIRRRIInuu p0 q1 q2 q3 p4 b1 b4 b8 (1 : Int32) (0 : Int32)) [(.int (1 : Int32))])) _
      refine XS.iconst X67.here hx rfl (hb hby at_102) ?_
      refine XS.goto X67.here hx rfl (pc0 := 103) (pc' := 107) rfl (hb hby at_103) (by decide) (by decide) ?_
      refine XS.icmpNo X67.here hx rfl (hb hby at_107) rfl (teq (by decide : (1 : Int32) = (1 : Int32))).2 ?_
      show Steps p.tables e below (T67.setTop (mkF m 110 (LS_IJsJsJsIRRRIInuu p0 q1 q2 q3 p4 b1 b4 b8 (1 : Int32) (0 : Int32)) [])) _
      refine XS.iconst X67.here hx rfl (hb hby at_110) ?_
      refine XS.goto X67.here hx rfl (pc0 := 111) (pc' := 115) rfl (hb hby at_111) (by decide) (by decide) ?_
      refine XS.istore X67.here hx rfl (hb hby at_115) rfl (l' := (LS_IJsJsJsIRRRIInuu p0 q1 q2 q3 p4 b1 b4 b8 (1 : Int32) (0 : Int32))) rfl ?_
      show Steps p.tables e below (T67.setTop (mkF m 117 (LS_IJsJsJsIRRRIInuu p0 q1 q2 q3 p4 b1 b4 b8 (1 : Int32) (0 : Int32)) [])) _
      refine XS.iloadN X67.here hx rfl (hb hby at_117) rfl ?_
      refine XS.iconst X67.here hx rfl (hb hby at_118) ?_
      refine XS.iand X67.here hx rfl (hb hby at_119) rfl ?_
      exact k
    by_cases hc120_69 : (p0 &&& (2 : Int32)) = (0 : Int32)
    · refine own_go (B := T67.setTop (mkF m 135 (LS_IJsJsJsIRRRIInnu p0 q1 q2 q3 p4 b1 b4 b8 (1 : Int32) (0 : Int32)) [.null, (.ref b4)])) (fun t k => ?_) ?_
      · refine XS.ifYes X67.here hx rfl (pc0 := 120) (pc' := 128) rfl (hb hby at_120) rfl ((if0 _ _).trans (teq hc120_69).1) (by decide) (by decide) ?_
        refine XS.aconstNull X67.here hx rfl (hb hby at_128) ?_
        show Steps p.tables e below (T67.setTop (mkF m 129 (LS_IJsJsJsIRRRIInuu p0 q1 q2 q3 p4 b1 b4 b8 (1 : Int32) (0 : Int32)) [.null])) _
        refine XS.astore X67.here hx rfl (hb hby at_129) rfl rfl (l' := (LS_IJsJsJsIRRRIInnu p0 q1 q2 q3 p4 b1 b4 b8 (1 : Int32) (0 : Int32))) rfl ?_
        refine XS.aload X67.here hx rfl (hb hby at_131) rfl rfl ?_
        refine XS.aload X67.here hx rfl (hb hby at_133) rfl rfl ?_
        exact k
      obtain ⟨cq70, kq70, q70a, q70b, q70c⟩ := isOf hZ16 e67 A4_v68
      obtain ⟨_, _, ⟨T70, L70, k70, n70⟩, -, X70, ⟨Lc70, hQ70, l70, y70, z70⟩, st70⟩ := X67.virtualBack hx (y := (⟨"com/example/weighted_scheduler/weightedscheduler/RequestBody", "refuse", "(Lcom/example/weighted_scheduler/weightedscheduler/ApiError;)V"⟩ : MethodName)) (z := (⟨"com/example/weighted_scheduler/weightedscheduler/RequestBody", "refuse", "(Lcom/example/weighted_scheduler/weightedscheduler/ApiError;)V"⟩ : MethodName)) ho16 (mvT hZ16 (hw _ (List.mem_of_getElem? (i := 119) rfl))) (mvT hZ16 (hw _ (List.mem_of_getElem? (i := 120) rfl))) (notFace_of_selects (args := #[]) (mvT hZ16 (hw _ (List.mem_of_getElem? (i := 122) rfl)))) (mvT hZ16 (hw _ (List.mem_of_getElem? (i := 122) rfl))) (mvT hZ16 (hw _ (List.mem_of_getElem? (i := 121) rfl))) (by decide) (backOf (W := 0) (rmrf0 l Z a0 hw [] b4 T65.heap n0 Z0_v66 A4_v68 Fr65 Fs65 g_b4) hZ16 (hw _ (List.mem_of_getElem? (i := 123) rfl)) (hw _ (List.mem_of_getElem? (i := 13) rfl)) (by decide) (by decide)) q70a q70c (g := (mkF m 135 (LS_IJsJsJsIRRRIInnu p0 q1 q2 q3 p4 b1 b4 b8 (1 : Int32) (0 : Int32)) [.null, (.ref b4)])) rfl (by rw [hml]; rfl) (Steps.refl _) (argsL := [.null]) (rest := []) (lenOf pd__Lcom_example_weighted_scheduler_weightedscheduler_ApiError__V rfl) rfl (by show 2 * 0 + _ ≤ _; exact Nat.le_of_eq rfl) (hb hby at_135) (fun _ _ => ⟨rfl, e67, (by decide : 9 + 0 ≤ _), (by decide : 2835 + 0 ≤ _)⟩)
      dsimp only [Pt.U, Pt.locs, Pt.cells, Pt.slots] at X70 l70 y70 z70 st70 hQ70
      subst l70 y70 z70
      obtain ⟨rfl, N70q, K70, Fr70, Fs70⟩ := hQ70
      have N70 := Fr.app N67 N70q
      refine own_go (B := T70.setTop (mkF m 138 (LS_IJsJsJsIRRRIInnu p0 q1 q2 q3 p4 b1 b4 b8 (1 : Int32) (0 : Int32)) [])) (fun t k => st70.trans k) ?_
      refine own_go (B := T70.setTop (mkF m 162 (LS_IJsJsJsIRRRIInnu p0 q1 q2 q3 p4 b1 b4 b8 (1 : Int32) (0 : Int32)) [(.ref b4)])) (fun t k => ?_) ?_
      · refine XS.iload X70.here hx rfl (hb hby at_138) rfl ?_
        refine XS.ifNo X70.here hx rfl (hb hby at_140) rfl ((if0 _ _).trans (teq (by decide : (0 : Int32) = (0 : Int32))).2) ?_
        show Steps p.tables e below (T70.setTop (mkF m 143 (LS_IJsJsJsIRRRIInnu p0 q1 q2 q3 p4 b1 b4 b8 (1 : Int32) (0 : Int32)) [])) _
        refine XS.aload X70.here hx rfl (hb hby at_143) rfl rfl ?_
        refine XS.ifnullYes X70.here hx rfl (pc0 := 145) (pc' := 152) rfl (hb hby at_145) rfl (by decide) (by decide) ?_
        refine XS.iconst X70.here hx rfl (hb hby at_152) ?_
        show Steps p.tables e below (T70.setTop (mkF m 153 (LS_IJsJsJsIRRRIInnu p0 q1 q2 q3 p4 b1 b4 b8 (1 : Int32) (0 : Int32)) [(.int (0 : Int32))])) _
        refine XS.istore X70.here hx rfl (hb hby at_153) rfl (l' := (LS_IJsJsJsIRRRIInnu p0 q1 q2 q3 p4 b1 b4 b8 (1 : Int32) (0 : Int32))) rfl ?_
        refine XS.iload X70.here hx rfl (hb hby at_155) rfl ?_
        refine XS.ifNo X70.here hx rfl (hb hby at_157) rfl ((if0 _ _).trans (feq (by decide : ¬ ((1 : Int32) = (0 : Int32)))).1) ?_
        show Steps p.tables e below (T70.setTop (mkF m 160 (LS_IJsJsJsIRRRIInnu p0 q1 q2 q3 p4 b1 b4 b8 (1 : Int32) (0 : Int32)) [])) _
        refine XS.aload X70.here hx rfl (hb hby at_160) rfl rfl ?_
        exact k
      have Z0_v71 := Nat.le_trans Z0_v66 K70.1
      have A4_v73 := A4_v68.keep K70
      obtain ⟨cq72, kq72, q72a, q72b, q72c⟩ := isOf hZ16 rfl A4_v73
      obtain ⟨_, _, ⟨T72, L72, k72, n72⟩, -, X72, ⟨Lc72, hQ72, l72, y72, z72⟩, st72⟩ := X70.virtualBack hx (y := (⟨"com/example/weighted_scheduler/weightedscheduler/RequestBody", "isWhole", "()Z"⟩ : MethodName)) (z := (⟨"com/example/weighted_scheduler/weightedscheduler/RequestBody", "isWhole", "()Z"⟩ : MethodName)) ho16 (mvT hZ16 (hw _ (List.mem_of_getElem? (i := 110) rfl))) (mvT hZ16 (hw _ (List.mem_of_getElem? (i := 111) rfl))) (notFace_of_selects (args := #[]) (mvT hZ16 (hw _ (List.mem_of_getElem? (i := 113) rfl)))) (mvT hZ16 (hw _ (List.mem_of_getElem? (i := 113) rfl))) (mvT hZ16 (hw _ (List.mem_of_getElem? (i := 112) rfl))) (by decide) (backOf (W := 0) (rmiw1 l Z a0 hw [] b4 T70.heap n0 Z0_v71 Fr70 Fs70) hZ16 (hw _ (List.mem_of_getElem? (i := 114) rfl)) (hw _ (List.mem_of_getElem? (i := 13) rfl)) (by decide) (by decide)) q72a q72c (g := (mkF m 162 (LS_IJsJsJsIRRRIInnu p0 q1 q2 q3 p4 b1 b4 b8 (1 : Int32) (0 : Int32)) [(.ref b4)])) rfl (by rw [hml]; rfl) (Steps.refl _) (argsL := []) (rest := []) (lenOf pd___Z rfl) rfl (by show 2 * 0 + _ ≤ _; exact Nat.le_of_eq rfl) (hb hby at_162) (fun _ _ => ⟨rfl, rfl, (by decide : 9 + 0 ≤ _), (by decide : 2835 + 0 ≤ _)⟩)
      dsimp only [Pt.U, Pt.locs, Pt.cells, Pt.slots] at X72 l72 y72 z72 st72 hQ72
      subst l72 y72 z72
      obtain ⟨rfl, N72q, e72⟩ := hQ72
      have N72 := Fr.app N70 N72q
      refine own_go (B := T72.setTop (mkF m 165 (LS_IJsJsJsIRRRIInnu p0 q1 q2 q3 p4 b1 b4 b8 (1 : Int32) (0 : Int32)) [(.int (1 : Int32))])) (fun t k => st72.trans k) ?_
      refine own_go (B := T72.setTop (mkF m 188 (LS_IJsJsJsIRRRIInnu p0 q1 q2 q3 p4 b1 b4 b8 (1 : Int32) (0 : Int32)) [(.int (p0 &&& (4 : Int32)))])) (fun t k => ?_) ?_
      · refine XS.iload X72.here hx rfl (hb hby at_165) rfl ?_
        refine XS.ifNo X72.here hx rfl (hb hby at_167) rfl ((if0 _ _).trans (teq (by decide : (0 : Int32) = (0 : Int32))).2) ?_
        show Steps p.tables e below (T72.setTop (mkF m 170 (LS_IJsJsJsIRRRIInnu p0 q1 q2 q3 p4 b1 b4 b8 (1 : Int32) (0 : Int32)) [(.int (1 : Int32))])) _
        refine XS.iconst X72.here hx rfl (hb hby at_170) ?_
        refine XS.goto X72.here hx rfl (pc0 := 171) (pc' := 175) rfl (hb hby at_171) (by decide) (by decide) ?_
        refine XS.icmpNo X72.here hx rfl (hb hby at_175) rfl (teq (by decide : (1 : Int32) = (1 : Int32))).2 ?_
        show Steps p.tables e below (T72.setTop (mkF m 178 (LS_IJsJsJsIRRRIInnu p0 q1 q2 q3 p4 b1 b4 b8 (1 : Int32) (0 : Int32)) [])) _
        refine XS.iconst X72.here hx rfl (hb hby at_178) ?_
        refine XS.goto X72.here hx rfl (pc0 := 179) (pc' := 183) rfl (hb hby at_179) (by decide) (by decide) ?_
        refine XS.istore X72.here hx rfl (hb hby at_183) rfl (l' := (LS_IJsJsJsIRRRIInnu p0 q1 q2 q3 p4 b1 b4 b8 (1 : Int32) (0 : Int32))) rfl ?_
        show Steps p.tables e below (T72.setTop (mkF m 185 (LS_IJsJsJsIRRRIInnu p0 q1 q2 q3 p4 b1 b4 b8 (1 : Int32) (0 : Int32)) [])) _
        refine XS.iloadN X72.here hx rfl (hb hby at_185) rfl ?_
        refine XS.iconst X72.here hx rfl (hb hby at_186) ?_
        refine XS.iand X72.here hx rfl (hb hby at_187) rfl ?_
        exact k
      by_cases hc188_74 : (p0 &&& (4 : Int32)) = (0 : Int32)
      · refine own_go (B := T72.setTop (mkF m 203 (LS_IJsJsJsIRRRIInnn p0 q1 q2 q3 p4 b1 b4 b8 (1 : Int32) (0 : Int32)) [.null, (.ref b4)])) (fun t k => ?_) ?_
        · refine XS.ifYes X72.here hx rfl (pc0 := 188) (pc' := 196) rfl (hb hby at_188) rfl ((if0 _ _).trans (teq hc188_74).1) (by decide) (by decide) ?_
          refine XS.aconstNull X72.here hx rfl (hb hby at_196) ?_
          show Steps p.tables e below (T72.setTop (mkF m 197 (LS_IJsJsJsIRRRIInnu p0 q1 q2 q3 p4 b1 b4 b8 (1 : Int32) (0 : Int32)) [.null])) _
          refine XS.astore X72.here hx rfl (hb hby at_197) rfl rfl (l' := (LS_IJsJsJsIRRRIInnn p0 q1 q2 q3 p4 b1 b4 b8 (1 : Int32) (0 : Int32))) rfl ?_
          refine XS.aload X72.here hx rfl (hb hby at_199) rfl rfl ?_
          refine XS.aload X72.here hx rfl (hb hby at_201) rfl rfl ?_
          exact k
        obtain ⟨cq75, kq75, q75a, q75b, q75c⟩ := isOf hZ16 e72 A4_v73
        obtain ⟨_, _, ⟨T75, L75, k75, n75⟩, -, X75, ⟨Lc75, hQ75, l75, y75, z75⟩, st75⟩ := X72.virtualBack hx (y := (⟨"com/example/weighted_scheduler/weightedscheduler/RequestBody", "refuse", "(Lcom/example/weighted_scheduler/weightedscheduler/ApiError;)V"⟩ : MethodName)) (z := (⟨"com/example/weighted_scheduler/weightedscheduler/RequestBody", "refuse", "(Lcom/example/weighted_scheduler/weightedscheduler/ApiError;)V"⟩ : MethodName)) ho16 (mvT hZ16 (hw _ (List.mem_of_getElem? (i := 119) rfl))) (mvT hZ16 (hw _ (List.mem_of_getElem? (i := 120) rfl))) (notFace_of_selects (args := #[]) (mvT hZ16 (hw _ (List.mem_of_getElem? (i := 122) rfl)))) (mvT hZ16 (hw _ (List.mem_of_getElem? (i := 122) rfl))) (mvT hZ16 (hw _ (List.mem_of_getElem? (i := 121) rfl))) (by decide) (backOf (W := 0) (rmrf0 l Z a0 hw [] b4 T70.heap n0 Z0_v71 A4_v73 Fr70 Fs70 g_b4) hZ16 (hw _ (List.mem_of_getElem? (i := 123) rfl)) (hw _ (List.mem_of_getElem? (i := 13) rfl)) (by decide) (by decide)) q75a q75c (g := (mkF m 203 (LS_IJsJsJsIRRRIInnn p0 q1 q2 q3 p4 b1 b4 b8 (1 : Int32) (0 : Int32)) [.null, (.ref b4)])) rfl (by rw [hml]; rfl) (Steps.refl _) (argsL := [.null]) (rest := []) (lenOf pd__Lcom_example_weighted_scheduler_weightedscheduler_ApiError__V rfl) rfl (by show 2 * 0 + _ ≤ _; exact Nat.le_of_eq rfl) (hb hby at_203) (fun _ _ => ⟨rfl, e72, (by decide : 9 + 0 ≤ _), (by decide : 2835 + 0 ≤ _)⟩)
        dsimp only [Pt.U, Pt.locs, Pt.cells, Pt.slots] at X75 l75 y75 z75 st75 hQ75
        subst l75 y75 z75
        obtain ⟨rfl, N75q, K75, Fr75, Fs75⟩ := hQ75
        have N75 := Fr.app N72 N75q
        refine own_go (B := T75.setTop (mkF m 206 (LS_IJsJsJsIRRRIInnn p0 q1 q2 q3 p4 b1 b4 b8 (1 : Int32) (0 : Int32)) [])) (fun t k => st75.trans k) ?_
        refine own_go (B := T75.setTop (mkF m 230 (LS_IJsJsJsIRRRIInnn p0 q1 q2 q3 p4 b1 b4 b8 (1 : Int32) (0 : Int32)) [(.ref b4)])) (fun t k => ?_) ?_
        · refine XS.iload X75.here hx rfl (hb hby at_206) rfl ?_
          refine XS.ifNo X75.here hx rfl (hb hby at_208) rfl ((if0 _ _).trans (teq (by decide : (0 : Int32) = (0 : Int32))).2) ?_
          show Steps p.tables e below (T75.setTop (mkF m 211 (LS_IJsJsJsIRRRIInnn p0 q1 q2 q3 p4 b1 b4 b8 (1 : Int32) (0 : Int32)) [])) _
          refine XS.aload X75.here hx rfl (hb hby at_211) rfl rfl ?_
          refine XS.ifnullYes X75.here hx rfl (pc0 := 213) (pc' := 220) rfl (hb hby at_213) rfl (by decide) (by decide) ?_
          refine XS.iconst X75.here hx rfl (hb hby at_220) ?_
          show Steps p.tables e below (T75.setTop (mkF m 221 (LS_IJsJsJsIRRRIInnn p0 q1 q2 q3 p4 b1 b4 b8 (1 : Int32) (0 : Int32)) [(.int (0 : Int32))])) _
          refine XS.istore X75.here hx rfl (hb hby at_221) rfl (l' := (LS_IJsJsJsIRRRIInnn p0 q1 q2 q3 p4 b1 b4 b8 (1 : Int32) (0 : Int32))) rfl ?_
          refine XS.iload X75.here hx rfl (hb hby at_223) rfl ?_
          refine XS.ifNo X75.here hx rfl (hb hby at_225) rfl ((if0 _ _).trans (feq (by decide : ¬ ((1 : Int32) = (0 : Int32)))).1) ?_
          show Steps p.tables e below (T75.setTop (mkF m 228 (LS_IJsJsJsIRRRIInnn p0 q1 q2 q3 p4 b1 b4 b8 (1 : Int32) (0 : Int32)) [])) _
          refine XS.aload X75.here hx rfl (hb hby at_228) rfl rfl ?_
          exact k
        have Z0_v76 := Nat.le_trans Z0_v71 K75.1
        have A4_v78 := A4_v73.keep K75
        obtain ⟨cq77, kq77, q77a, q77b, q77c⟩ := isOf hZ16 rfl A4_v78
        obtain ⟨_, _, ⟨T77, L77, k77, n77⟩, -, X77, ⟨Lc77, hQ77, l77, y77, z77⟩, st77⟩ := X75.virtualBack hx (y := (⟨"com/example/weighted_scheduler/weightedscheduler/RequestBody", "isWhole", "()Z"⟩ : MethodName)) (z := (⟨"com/example/weighted_scheduler/weightedscheduler/RequestBody", "isWhole", "()Z"⟩ : MethodName)) ho16 (mvT hZ16 (hw _ (List.mem_of_getElem? (i := 110) rfl))) (mvT hZ16 (hw _ (List.mem_of_getElem? (i := 111) rfl))) (notFace_of_selects (args := #[]) (mvT hZ16 (hw _ (List.mem_of_getElem? (i := 113) rfl)))) (mvT hZ16 (hw _ (List.mem_of_getElem? (i := 113) rfl))) (mvT hZ16 (hw _ (List.mem_of_getElem? (i := 112) rfl))) (by decide) (backOf (W := 0) (rmiw1 l Z a0 hw [] b4 T75.heap n0 Z0_v76 Fr75 Fs75) hZ16 (hw _ (List.mem_of_getElem? (i := 114) rfl)) (hw _ (List.mem_of_getElem? (i := 13) rfl)) (by decide) (by decide)) q77a q77c (g := (mkF m 230 (LS_IJsJsJsIRRRIInnn p0 q1 q2 q3 p4 b1 b4 b8 (1 : Int32) (0 : Int32)) [(.ref b4)])) rfl (by rw [hml]; rfl) (Steps.refl _) (argsL := []) (rest := []) (lenOf pd___Z rfl) rfl (by show 2 * 0 + _ ≤ _; exact Nat.le_of_eq rfl) (hb hby at_230) (fun _ _ => ⟨rfl, rfl, (by decide : 9 + 0 ≤ _), (by decide : 2835 + 0 ≤ _)⟩)
        dsimp only [Pt.U, Pt.locs, Pt.cells, Pt.slots] at X77 l77 y77 z77 st77 hQ77
        subst l77 y77 z77
        obtain ⟨rfl, N77q, e77⟩ := hQ77
        have N77 := Fr.app N75 N77q
        refine own_go (B := T77.setTop (mkF m 233 (LS_IJsJsJsIRRRIInnn p0 q1 q2 q3 p4 b1 b4 b8 (1 : Int32) (0 : Int32)) [(.int (1 : Int32))])) (fun t k => st77.trans k) ?_
        refine own_go (B := T77.setTop (mkF m 255 (LS_IJsJsJsIRRRIInnn p0 q1 q2 q3 p4 b1 b4 b8 (1 : Int32) (0 : Int32)) [(.int (1 : Int32))])) (fun t k => ?_) ?_
        · refine XS.iload X77.here hx rfl (hb hby at_233) rfl ?_
          refine XS.ifNo X77.here hx rfl (hb hby at_235) rfl ((if0 _ _).trans (teq (by decide : (0 : Int32) = (0 : Int32))).2) ?_
          show Steps p.tables e below (T77.setTop (mkF m 238 (LS_IJsJsJsIRRRIInnn p0 q1 q2 q3 p4 b1 b4 b8 (1 : Int32) (0 : Int32)) [(.int (1 : Int32))])) _
          refine XS.iconst X77.here hx rfl (hb hby at_238) ?_
          refine XS.goto X77.here hx rfl (pc0 := 239) (pc' := 243) rfl (hb hby at_239) (by decide) (by decide) ?_
          refine XS.icmpNo X77.here hx rfl (hb hby at_243) rfl (teq (by decide : (1 : Int32) = (1 : Int32))).2 ?_
          show Steps p.tables e below (T77.setTop (mkF m 246 (LS_IJsJsJsIRRRIInnn p0 q1 q2 q3 p4 b1 b4 b8 (1 : Int32) (0 : Int32)) [])) _
          refine XS.iconst X77.here hx rfl (hb hby at_246) ?_
          refine XS.goto X77.here hx rfl (pc0 := 247) (pc' := 251) rfl (hb hby at_247) (by decide) (by decide) ?_
          refine XS.istore X77.here hx rfl (hb hby at_251) rfl (l' := (LS_IJsJsJsIRRRIInnn p0 q1 q2 q3 p4 b1 b4 b8 (1 : Int32) (0 : Int32))) rfl ?_
          show Steps p.tables e below (T77.setTop (mkF m 253 (LS_IJsJsJsIRRRIInnn p0 q1 q2 q3 p4 b1 b4 b8 (1 : Int32) (0 : Int32)) [])) _
          refine XS.iload X77.here hx rfl (hb hby at_253) rfl ?_
          exact k
        have hk16_v79 := Nat.le_trans hk16 K47.1
        have hk16_v80 := Nat.le_trans hk16_v79 K65.1
        have hk16_v81 := Nat.le_trans hk16_v80 K70.1
        have hk16_v82 := Nat.le_trans hk16_v81 K75.1
        obtain ⟨fs, hr, hrun, hended, hRW⟩ := Stand.leaveW (s := s) (vm₁ := T16.vm) X77 hS16 (by rw [e77]; exact hk16_v82) (v := some (.int (1 : Int32))) (fun h => by rw [Bd.returns] at h; cases h) (BodyLoose.notSynchronized Bd)
        refine ⟨_, _, ?_, hrun, hended, _, _, rfl, ?_, hRW.1, hRW.2.1, hRW.2.2.1, hRW.2.2.2.mono (by decide) (by decide)⟩
        · show Steps p.tables e below (T77.setTop (mkF m 255 (LS_IJsJsJsIRRRIInnn p0 q1 q2 q3 p4 b1 b4 b8 (1 : Int32) (0 : Int32)) [(.int (1 : Int32))])) _
          exact retN X77 hx (t := .boolean) Bd.returns (by simp) (hb hby at_255) hr
        · show Q0 Z p0 q1 q2 q3 p4 wm uu sn h0 n0 _ T77.heap _
          rw [e77]
          exact ⟨rfl, N77⟩
      · refine own_go (B := T72.setTop (mkF m 203 (LS_IJsJsJsIRRRIInnR p0 q1 q2 q3 p4 b1 b4 b8 (1 : Int32) (0 : Int32) b8) [(.ref b8), (.ref b4)])) (fun t k => ?_) ?_
        · refine XS.ifNo X72.here hx rfl (hb hby at_188) rfl ((if0 _ _).trans (feq hc188_74).1) ?_
          refine XS.aload X72.here hx rfl (hb hby at_191) rfl rfl ?_
          show Steps p.tables e below (T72.setTop (mkF m 193 (LS_IJsJsJsIRRRIInnu p0 q1 q2 q3 p4 b1 b4 b8 (1 : Int32) (0 : Int32)) [(.ref b8)])) _
          refine XS.goto X72.here hx rfl (pc0 := 193) (pc' := 197) rfl (hb hby at_193) (by decide) (by decide) ?_
          refine XS.astore X72.here hx rfl (hb hby at_197) rfl rfl (l' := (LS_IJsJsJsIRRRIInnR p0 q1 q2 q3 p4 b1 b4 b8 (1 : Int32) (0 : Int32) b8)) rfl ?_
          refine XS.aload X72.here hx rfl (hb hby at_199) rfl rfl ?_
          show Steps p.tables e below (T72.setTop (mkF m 201 (LS_IJsJsJsIRRRIInnR p0 q1 q2 q3 p4 b1 b4 b8 (1 : Int32) (0 : Int32) b8) [(.ref b4)])) _
          refine XS.aload X72.here hx rfl (hb hby at_201) rfl rfl ?_
          exact k
        obtain ⟨cq83, kq83, q83a, q83b, q83c⟩ := isOf hZ16 e72 A4_v73
        obtain ⟨_, _, ⟨T83, L83, k83, n83⟩, -, X83, ⟨Lc83, hQ83, l83, y83, z83⟩, st83⟩ := X72.virtualBack hx (y := (⟨"com/example/weighted_scheduler/weightedscheduler/RequestBody", "refuse", "(Lcom/example/weighted_scheduler/weightedscheduler/ApiError;)V"⟩ : MethodName)) (z := (⟨"com/example/weighted_scheduler/weightedscheduler/RequestBody", "refuse", "(Lcom/example/weighted_scheduler/weightedscheduler/ApiError;)V"⟩ : MethodName)) ho16 (mvT hZ16 (hw _ (List.mem_of_getElem? (i := 119) rfl))) (mvT hZ16 (hw _ (List.mem_of_getElem? (i := 120) rfl))) (notFace_of_selects (args := #[]) (mvT hZ16 (hw _ (List.mem_of_getElem? (i := 122) rfl)))) (mvT hZ16 (hw _ (List.mem_of_getElem? (i := 122) rfl))) (mvT hZ16 (hw _ (List.mem_of_getElem? (i := 121) rfl))) (by decide) (backOf (W := 0) (rmrf1 l Z a0 hw [] b4 b8 T70.heap n0 Z0_v71 A4_v73 Fr70 Fs70 g_b4) hZ16 (hw _ (List.mem_of_getElem? (i := 123) rfl)) (hw _ (List.mem_of_getElem? (i := 13) rfl)) (by decide) (by decide)) q83a q83c (g := (mkF m 203 (LS_IJsJsJsIRRRIInnR p0 q1 q2 q3 p4 b1 b4 b8 (1 : Int32) (0 : Int32) b8) [(.ref b8), (.ref b4)])) rfl (by rw [hml]; rfl) (Steps.refl _) (argsL := [(.ref b8)]) (rest := []) (lenOf pd__Lcom_example_weighted_scheduler_weightedscheduler_ApiError__V rfl) rfl (by show 2 * 0 + _ ≤ _; exact Nat.le_of_eq rfl) (hb hby at_203) (fun _ _ => ⟨rfl, e72, (by decide : 9 + 0 ≤ _), (by decide : 2835 + 0 ≤ _)⟩)
        dsimp only [Pt.U, Pt.locs, Pt.cells, Pt.slots] at X83 l83 y83 z83 st83 hQ83
        subst l83 y83 z83
        obtain ⟨rfl, N83q, K83, Fr83, Fs83⟩ := hQ83
        have N83 := Fr.app N72 N83q
        refine own_go (B := T83.setTop (mkF m 206 (LS_IJsJsJsIRRRIInnR p0 q1 q2 q3 p4 b1 b4 b8 (1 : Int32) (0 : Int32) b8) [])) (fun t k => st83.trans k) ?_
        refine own_go (B := T83.setTop (mkF m 230 (LS_IJsJsJsIRRRIInnR p0 q1 q2 q3 p4 b1 b4 b8 (1 : Int32) (1 : Int32) b8) [(.ref b4)])) (fun t k => ?_) ?_
        · refine XS.iload X83.here hx rfl (hb hby at_206) rfl ?_
          refine XS.ifNo X83.here hx rfl (hb hby at_208) rfl ((if0 _ _).trans (teq (by decide : (0 : Int32) = (0 : Int32))).2) ?_
          show Steps p.tables e below (T83.setTop (mkF m 211 (LS_IJsJsJsIRRRIInnR p0 q1 q2 q3 p4 b1 b4 b8 (1 : Int32) (0 : Int32) b8) [])) _
          refine XS.aload X83.here hx rfl (hb hby at_211) rfl rfl ?_
          refine XS.ifnullNo X83.here hx rfl (hb hby at_213) rfl ?_
          refine XS.iconst X83.here hx rfl (hb hby at_216) ?_
          show Steps p.tables e below (T83.setTop (mkF m 217 (LS_IJsJsJsIRRRIInnR p0 q1 q2 q3 p4 b1 b4 b8 (1 : Int32) (0 : Int32) b8) [(.int (1 : Int32))])) _
          refine XS.goto X83.here hx rfl (pc0 := 217) (pc' := 221) rfl (hb hby at_217) (by decide) (by decide) ?_
          refine XS.istore X83.here hx rfl (hb hby at_221) rfl (l' := (LS_IJsJsJsIRRRIInnR p0 q1 q2 q3 p4 b1 b4 b8 (1 : Int32) (1 : Int32) b8)) rfl ?_
          refine XS.iload X83.here hx rfl (hb hby at_223) rfl ?_
          show Steps p.tables e below (T83.setTop (mkF m 225 (LS_IJsJsJsIRRRIInnR p0 q1 q2 q3 p4 b1 b4 b8 (1 : Int32) (1 : Int32) b8) [(.int (1 : Int32))])) _
          refine XS.ifNo X83.here hx rfl (hb hby at_225) rfl ((if0 _ _).trans (feq (by decide : ¬ ((1 : Int32) = (0 : Int32)))).1) ?_
          refine XS.aload X83.here hx rfl (hb hby at_228) rfl rfl ?_
          exact k
        have Z0_v84 := Nat.le_trans Z0_v71 K83.1
        have A4_v86 := A4_v73.keep K83
        obtain ⟨cq85, kq85, q85a, q85b, q85c⟩ := isOf hZ16 rfl A4_v86
        obtain ⟨_, _, ⟨T85, L85, k85, n85⟩, -, X85, ⟨Lc85, hQ85, l85, y85, z85⟩, st85⟩ := X83.virtualBack hx (y := (⟨"com/example/weighted_scheduler/weightedscheduler/RequestBody", "isWhole", "()Z"⟩ : MethodName)) (z := (⟨"com/example/weighted_scheduler/weightedscheduler/RequestBody", "isWhole", "()Z"⟩ : MethodName)) ho16 (mvT hZ16 (hw _ (List.mem_of_getElem? (i := 110) rfl))) (mvT hZ16 (hw _ (List.mem_of_getElem? (i := 111) rfl))) (notFace_of_selects (args := #[]) (mvT hZ16 (hw _ (List.mem_of_getElem? (i := 113) rfl)))) (mvT hZ16 (hw _ (List.mem_of_getElem? (i := 113) rfl))) (mvT hZ16 (hw _ (List.mem_of_getElem? (i := 112) rfl))) (by decide) (backOf (W := 0) (rmiw0 l Z a0 hw [] b4 b8 T83.heap n0 Z0_v84 Fr83) hZ16 (hw _ (List.mem_of_getElem? (i := 114) rfl)) (hw _ (List.mem_of_getElem? (i := 13) rfl)) (by decide) (by decide)) q85a q85c (g := (mkF m 230 (LS_IJsJsJsIRRRIInnR p0 q1 q2 q3 p4 b1 b4 b8 (1 : Int32) (1 : Int32) b8) [(.ref b4)])) rfl (by rw [hml]; rfl) (Steps.refl _) (argsL := []) (rest := []) (lenOf pd___Z rfl) rfl (by show 2 * 0 + _ ≤ _; exact Nat.le_of_eq rfl) (hb hby at_230) (fun _ _ => ⟨rfl, rfl, (by decide : 9 + 0 ≤ _), (by decide : 2835 + 0 ≤ _)⟩)
        dsimp only [Pt.U, Pt.locs, Pt.cells, Pt.slots] at X85 l85 y85 z85 st85 hQ85
        subst l85 y85 z85
        obtain ⟨rfl, N85q, e85⟩ := hQ85
        have N85 := Fr.app N83 N85q
        refine own_go (B := T85.setTop (mkF m 233 (LS_IJsJsJsIRRRIInnR p0 q1 q2 q3 p4 b1 b4 b8 (1 : Int32) (1 : Int32) b8) [(.int (0 : Int32))])) (fun t k => st85.trans k) ?_
        refine own_go (B := T85.setTop (mkF m 255 (LS_IJsJsJsIRRRIInnR p0 q1 q2 q3 p4 b1 b4 b8 (1 : Int32) (1 : Int32) b8) [(.int (1 : Int32))])) (fun t k => ?_) ?_
        · refine XS.iload X85.here hx rfl (hb hby at_233) rfl ?_
          refine XS.ifYes X85.here hx rfl (pc0 := 235) (pc' := 242) rfl (hb hby at_235) rfl ((if0 _ _).trans (feq (by decide : ¬ ((1 : Int32) = (0 : Int32)))).2) (by decide) (by decide) ?_
          show Steps p.tables e below (T85.setTop (mkF m 242 (LS_IJsJsJsIRRRIInnR p0 q1 q2 q3 p4 b1 b4 b8 (1 : Int32) (1 : Int32) b8) [(.int (0 : Int32))])) _
          refine XS.iconst X85.here hx rfl (hb hby at_242) ?_
          refine XS.icmpNo X85.here hx rfl (hb hby at_243) rfl (teq (by decide : (0 : Int32) = (0 : Int32))).2 ?_
          refine XS.iconst X85.here hx rfl (hb hby at_246) ?_
          show Steps p.tables e below (T85.setTop (mkF m 247 (LS_IJsJsJsIRRRIInnR p0 q1 q2 q3 p4 b1 b4 b8 (1 : Int32) (1 : Int32) b8) [(.int (1 : Int32))])) _
          refine XS.goto X85.here hx rfl (pc0 := 247) (pc' := 251) rfl (hb hby at_247) (by decide) (by decide) ?_
          refine XS.istore X85.here hx rfl (hb hby at_251) rfl (l' := (LS_IJsJsJsIRRRIInnR p0 q1 q2 q3 p4 b1 b4 b8 (1 : Int32) (1 : Int32) b8)) rfl ?_
          refine XS.iload X85.here hx rfl (hb hby at_253) rfl ?_
          exact k
        have hk16_v87 := Nat.le_trans hk16 K47.1
        have hk16_v88 := Nat.le_trans hk16_v87 K65.1
        have hk16_v89 := Nat.le_trans hk16_v88 K70.1
        have hk16_v90 := Nat.le_trans hk16_v89 K83.1
        obtain ⟨fs, hr, hrun, hended, hRW⟩ := Stand.leaveW (s := s) (vm₁ := T16.vm) X85 hS16 (by rw [e85]; exact hk16_v90) (v := some (.int (1 : Int32))) (fun h => by rw [Bd.returns] at h; cases h) (BodyLoose.notSynchronized Bd)
        refine ⟨_, _, ?_, hrun, hended, _, _, rfl, ?_, hRW.1, hRW.2.1, hRW.2.2.1, hRW.2.2.2.mono (by decide) (by decide)⟩
        · show Steps p.tables e below (T85.setTop (mkF m 255 (LS_IJsJsJsIRRRIInnR p0 q1 q2 q3 p4 b1 b4 b8 (1 : Int32) (1 : Int32) b8) [(.int (1 : Int32))])) _
          exact retN X85 hx (t := .boolean) Bd.returns (by simp) (hb hby at_255) hr
        · show Q0 Z p0 q1 q2 q3 p4 wm uu sn h0 n0 _ T85.heap _
          rw [e85]
          exact ⟨rfl, N85⟩
    · refine own_go (B := T67.setTop (mkF m 135 (LS_IJsJsJsIRRRIInRu p0 q1 q2 q3 p4 b1 b4 b8 (1 : Int32) (0 : Int32) b8) [(.ref b8), (.ref b4)])) (fun t k => ?_) ?_
      · refine XS.ifNo X67.here hx rfl (hb hby at_120) rfl ((if0 _ _).trans (feq hc120_69).1) ?_
        refine XS.aload X67.here hx rfl (hb hby at_123) rfl rfl ?_
        show Steps p.tables e below (T67.setTop (mkF m 125 (LS_IJsJsJsIRRRIInuu p0 q1 q2 q3 p4 b1 b4 b8 (1 : Int32) (0 : Int32)) [(.ref b8)])) _
        refine XS.goto X67.here hx rfl (pc0 := 125) (pc' := 129) rfl (hb hby at_125) (by decide) (by decide) ?_
        refine XS.astore X67.here hx rfl (hb hby at_129) rfl rfl (l' := (LS_IJsJsJsIRRRIInRu p0 q1 q2 q3 p4 b1 b4 b8 (1 : Int32) (0 : Int32) b8)) rfl ?_
        refine XS.aload X67.here hx rfl (hb hby at_131) rfl rfl ?_
        show Steps p.tables e below (T67.setTop (mkF m 133 (LS_IJsJsJsIRRRIInRu p0 q1 q2 q3 p4 b1 b4 b8 (1 : Int32) (0 : Int32) b8) [(.ref b4)])) _
        refine XS.aload X67.here hx rfl (hb hby at_133) rfl rfl ?_
        exact k
      obtain ⟨cq91, kq91, q91a, q91b, q91c⟩ := isOf hZ16 e67 A4_v68
      obtain ⟨_, _, ⟨T91, L91, k91, n91⟩, -, X91, ⟨Lc91, hQ91, l91, y91, z91⟩, st91⟩ := X67.virtualBack hx (y := (⟨"com/example/weighted_scheduler/weightedscheduler/RequestBody", "refuse", "(Lcom/example/weighted_scheduler/weightedscheduler/ApiError;)V"⟩ : MethodName)) (z := (⟨"com/example/weighted_scheduler/weightedscheduler/RequestBody", "refuse", "(Lcom/example/weighted_scheduler/weightedscheduler/ApiError;)V"⟩ : MethodName)) ho16 (mvT hZ16 (hw _ (List.mem_of_getElem? (i := 119) rfl))) (mvT hZ16 (hw _ (List.mem_of_getElem? (i := 120) rfl))) (notFace_of_selects (args := #[]) (mvT hZ16 (hw _ (List.mem_of_getElem? (i := 122) rfl)))) (mvT hZ16 (hw _ (List.mem_of_getElem? (i := 122) rfl))) (mvT hZ16 (hw _ (List.mem_of_getElem? (i := 121) rfl))) (by decide) (backOf (W := 0) (rmrf1 l Z a0 hw [] b4 b8 T65.heap n0 Z0_v66 A4_v68 Fr65 Fs65 g_b4) hZ16 (hw _ (List.mem_of_getElem? (i := 123) rfl)) (hw _ (List.mem_of_getElem? (i := 13) rfl)) (by decide) (by decide)) q91a q91c (g := (mkF m 135 (LS_IJsJsJsIRRRIInRu p0 q1 q2 q3 p4 b1 b4 b8 (1 : Int32) (0 : Int32) b8) [(.ref b8), (.ref b4)])) rfl (by rw [hml]; rfl) (Steps.refl _) (argsL := [(.ref b8)]) (rest := []) (lenOf pd__Lcom_example_weighted_scheduler_weightedscheduler_ApiError__V rfl) rfl (by show 2 * 0 + _ ≤ _; exact Nat.le_of_eq rfl) (hb hby at_135) (fun _ _ => ⟨rfl, e67, (by decide : 9 + 0 ≤ _), (by decide : 2835 + 0 ≤ _)⟩)
      dsimp only [Pt.U, Pt.locs, Pt.cells, Pt.slots] at X91 l91 y91 z91 st91 hQ91
      subst l91 y91 z91
      obtain ⟨rfl, N91q, K91, Fr91, Fs91⟩ := hQ91
      have N91 := Fr.app N67 N91q
      refine own_go (B := T91.setTop (mkF m 138 (LS_IJsJsJsIRRRIInRu p0 q1 q2 q3 p4 b1 b4 b8 (1 : Int32) (0 : Int32) b8) [])) (fun t k => st91.trans k) ?_
      refine own_go (B := T91.setTop (mkF m 162 (LS_IJsJsJsIRRRIInRu p0 q1 q2 q3 p4 b1 b4 b8 (1 : Int32) (1 : Int32) b8) [(.ref b4)])) (fun t k => ?_) ?_
      · refine XS.iload X91.here hx rfl (hb hby at_138) rfl ?_
        refine XS.ifNo X91.here hx rfl (hb hby at_140) rfl ((if0 _ _).trans (teq (by decide : (0 : Int32) = (0 : Int32))).2) ?_
        show Steps p.tables e below (T91.setTop (mkF m 143 (LS_IJsJsJsIRRRIInRu p0 q1 q2 q3 p4 b1 b4 b8 (1 : Int32) (0 : Int32) b8) [])) _
        refine XS.aload X91.here hx rfl (hb hby at_143) rfl rfl ?_
        refine XS.ifnullNo X91.here hx rfl (hb hby at_145) rfl ?_
        refine XS.iconst X91.here hx rfl (hb hby at_148) ?_
        show Steps p.tables e below (T91.setTop (mkF m 149 (LS_IJsJsJsIRRRIInRu p0 q1 q2 q3 p4 b1 b4 b8 (1 : Int32) (0 : Int32) b8) [(.int (1 : Int32))])) _
        refine XS.goto X91.here hx rfl (pc0 := 149) (pc' := 153) rfl (hb hby at_149) (by decide) (by decide) ?_
        refine XS.istore X91.here hx rfl (hb hby at_153) rfl (l' := (LS_IJsJsJsIRRRIInRu p0 q1 q2 q3 p4 b1 b4 b8 (1 : Int32) (1 : Int32) b8)) rfl ?_
        refine XS.iload X91.here hx rfl (hb hby at_155) rfl ?_
        show Steps p.tables e below (T91.setTop (mkF m 157 (LS_IJsJsJsIRRRIInRu p0 q1 q2 q3 p4 b1 b4 b8 (1 : Int32) (1 : Int32) b8) [(.int (1 : Int32))])) _
        refine XS.ifNo X91.here hx rfl (hb hby at_157) rfl ((if0 _ _).trans (feq (by decide : ¬ ((1 : Int32) = (0 : Int32)))).1) ?_
        refine XS.aload X91.here hx rfl (hb hby at_160) rfl rfl ?_
        exact k
      have Z0_v92 := Nat.le_trans Z0_v66 K91.1
      have A4_v94 := A4_v68.keep K91
      obtain ⟨cq93, kq93, q93a, q93b, q93c⟩ := isOf hZ16 rfl A4_v94
      obtain ⟨_, _, ⟨T93, L93, k93, n93⟩, -, X93, ⟨Lc93, hQ93, l93, y93, z93⟩, st93⟩ := X91.virtualBack hx (y := (⟨"com/example/weighted_scheduler/weightedscheduler/RequestBody", "isWhole", "()Z"⟩ : MethodName)) (z := (⟨"com/example/weighted_scheduler/weightedscheduler/RequestBody", "isWhole", "()Z"⟩ : MethodName)) ho16 (mvT hZ16 (hw _ (List.mem_of_getElem? (i := 110) rfl))) (mvT hZ16 (hw _ (List.mem_of_getElem? (i := 111) rfl))) (notFace_of_selects (args := #[]) (mvT hZ16 (hw _ (List.mem_of_getElem? (i := 113) rfl)))) (mvT hZ16 (hw _ (List.mem_of_getElem? (i := 113) rfl))) (mvT hZ16 (hw _ (List.mem_of_getElem? (i := 112) rfl))) (by decide) (backOf (W := 0) (rmiw0 l Z a0 hw [] b4 b8 T91.heap n0 Z0_v92 Fr91) hZ16 (hw _ (List.mem_of_getElem? (i := 114) rfl)) (hw _ (List.mem_of_getElem? (i := 13) rfl)) (by decide) (by decide)) q93a q93c (g := (mkF m 162 (LS_IJsJsJsIRRRIInRu p0 q1 q2 q3 p4 b1 b4 b8 (1 : Int32) (1 : Int32) b8) [(.ref b4)])) rfl (by rw [hml]; rfl) (Steps.refl _) (argsL := []) (rest := []) (lenOf pd___Z rfl) rfl (by show 2 * 0 + _ ≤ _; exact Nat.le_of_eq rfl) (hb hby at_162) (fun _ _ => ⟨rfl, rfl, (by decide : 9 + 0 ≤ _), (by decide : 2835 + 0 ≤ _)⟩)
      dsimp only [Pt.U, Pt.locs, Pt.cells, Pt.slots] at X93 l93 y93 z93 st93 hQ93
      subst l93 y93 z93
      obtain ⟨rfl, N93q, e93⟩ := hQ93
      have N93 := Fr.app N91 N93q
      refine own_go (B := T93.setTop (mkF m 165 (LS_IJsJsJsIRRRIInRu p0 q1 q2 q3 p4 b1 b4 b8 (1 : Int32) (1 : Int32) b8) [(.int (0 : Int32))])) (fun t k => st93.trans k) ?_
      refine own_go (B := T93.setTop (mkF m 188 (LS_IJsJsJsIRRRIInRu p0 q1 q2 q3 p4 b1 b4 b8 (1 : Int32) (1 : Int32) b8) [(.int (p0 &&& (4 : Int32)))])) (fun t k => ?_) ?_
      · refine XS.iload X93.here hx rfl (hb hby at_165) rfl ?_
        refine XS.ifYes X93.here hx rfl (pc0 := 167) (pc' := 174) rfl (hb hby at_167) rfl ((if0 _ _).trans (feq (by decide : ¬ ((1 : Int32) = (0 : Int32)))).2) (by decide) (by decide) ?_
        show Steps p.tables e below (T93.setTop (mkF m 174 (LS_IJsJsJsIRRRIInRu p0 q1 q2 q3 p4 b1 b4 b8 (1 : Int32) (1 : Int32) b8) [(.int (0 : Int32))])) _
        refine XS.iconst X93.here hx rfl (hb hby at_174) ?_
        refine XS.icmpNo X93.here hx rfl (hb hby at_175) rfl (teq (by decide : (0 : Int32) = (0 : Int32))).2 ?_
        refine XS.iconst X93.here hx rfl (hb hby at_178) ?_
        show Steps p.tables e below (T93.setTop (mkF m 179 (LS_IJsJsJsIRRRIInRu p0 q1 q2 q3 p4 b1 b4 b8 (1 : Int32) (1 : Int32) b8) [(.int (1 : Int32))])) _
        refine XS.goto X93.here hx rfl (pc0 := 179) (pc' := 183) rfl (hb hby at_179) (by decide) (by decide) ?_
        refine XS.istore X93.here hx rfl (hb hby at_183) rfl (l' := (LS_IJsJsJsIRRRIInRu p0 q1 q2 q3 p4 b1 b4 b8 (1 : Int32) (1 : Int32) b8)) rfl ?_
        refine XS.iloadN X93.here hx rfl (hb hby at_185) rfl ?_
        show Steps p.tables e below (T93.setTop (mkF m 186 (LS_IJsJsJsIRRRIInRu p0 q1 q2 q3 p4 b1 b4 b8 (1 : Int32) (1 : Int32) b8) [(.int p0)])) _
        refine XS.iconst X93.here hx rfl (hb hby at_186) ?_
        refine XS.iand X93.here hx rfl (hb hby at_187) rfl ?_
        exact k
      by_cases hc188_95 : (p0 &&& (4 : Int32)) = (0 : Int32)
      · refine own_go (B := T93.setTop (mkF m 203 (LS_IJsJsJsIRRRIInRn p0 q1 q2 q3 p4 b1 b4 b8 (1 : Int32) (1 : Int32) b8) [.null, (.ref b4)])) (fun t k => ?_) ?_
        · refine XS.ifYes X93.here hx rfl (pc0 := 188) (pc' := 196) rfl (hb hby at_188) rfl ((if0 _ _).trans (teq hc188_95).1) (by decide) (by decide) ?_
          refine XS.aconstNull X93.here hx rfl (hb hby at_196) ?_
          show Steps p.tables e below (T93.setTop (mkF m 197 (LS_IJsJsJsIRRRIInRu p0 q1 q2 q3 p4 b1 b4 b8 (1 : Int32) (1 : Int32) b8) [.null])) _
          refine XS.astore X93.here hx rfl (hb hby at_197) rfl rfl (l' := (LS_IJsJsJsIRRRIInRn p0 q1 q2 q3 p4 b1 b4 b8 (1 : Int32) (1 : Int32) b8)) rfl ?_
          refine XS.aload X93.here hx rfl (hb hby at_199) rfl rfl ?_
          refine XS.aload X93.here hx rfl (hb hby at_201) rfl rfl ?_
          exact k
        obtain ⟨cq96, kq96, q96a, q96b, q96c⟩ := isOf hZ16 e93 A4_v94
        obtain ⟨_, _, ⟨T96, L96, k96, n96⟩, -, X96, ⟨Lc96, hQ96, l96, y96, z96⟩, st96⟩ := X93.virtualBack hx (y := (⟨"com/example/weighted_scheduler/weightedscheduler/RequestBody", "refuse", "(Lcom/example/weighted_scheduler/weightedscheduler/ApiError;)V"⟩ : MethodName)) (z := (⟨"com/example/weighted_scheduler/weightedscheduler/RequestBody", "refuse", "(Lcom/example/weighted_scheduler/weightedscheduler/ApiError;)V"⟩ : MethodName)) ho16 (mvT hZ16 (hw _ (List.mem_of_getElem? (i := 119) rfl))) (mvT hZ16 (hw _ (List.mem_of_getElem? (i := 120) rfl))) (notFace_of_selects (args := #[]) (mvT hZ16 (hw _ (List.mem_of_getElem? (i := 122) rfl)))) (mvT hZ16 (hw _ (List.mem_of_getElem? (i := 122) rfl))) (mvT hZ16 (hw _ (List.mem_of_getElem? (i := 121) rfl))) (by decide) (backOf (W := 0) (rmrf2 l Z a0 hw [] b4 b8 T91.heap n0 Z0_v92 Fr91) hZ16 (hw _ (List.mem_of_getElem? (i := 123) rfl)) (hw _ (List.mem_of_getElem? (i := 13) rfl)) (by decide) (by decide)) q96a q96c (g := (mkF m 203 (LS_IJsJsJsIRRRIInRn p0 q1 q2 q3 p4 b1 b4 b8 (1 : Int32) (1 : Int32) b8) [.null, (.ref b4)])) rfl (by rw [hml]; rfl) (Steps.refl _) (argsL := [.null]) (rest := []) (lenOf pd__Lcom_example_weighted_scheduler_weightedscheduler_ApiError__V rfl) rfl (by show 2 * 0 + _ ≤ _; exact Nat.le_of_eq rfl) (hb hby at_203) (fun _ _ => ⟨rfl, e93, (by decide : 9 + 0 ≤ _), (by decide : 2835 + 0 ≤ _)⟩)
        dsimp only [Pt.U, Pt.locs, Pt.cells, Pt.slots] at X96 l96 y96 z96 st96 hQ96
        subst l96 y96 z96
        obtain ⟨rfl, N96q, e96⟩ := hQ96
        have N96 := Fr.app N93 N96q
        refine own_go (B := T96.setTop (mkF m 206 (LS_IJsJsJsIRRRIInRn p0 q1 q2 q3 p4 b1 b4 b8 (1 : Int32) (1 : Int32) b8) [])) (fun t k => st96.trans k) ?_
        refine own_go (B := T96.setTop (mkF m 230 (LS_IJsJsJsIRRRIInRn p0 q1 q2 q3 p4 b1 b4 b8 (1 : Int32) (1 : Int32) b8) [(.ref b4)])) (fun t k => ?_) ?_
        · refine XS.iload X96.here hx rfl (hb hby at_206) rfl ?_
          refine XS.ifYes X96.here hx rfl (pc0 := 208) (pc' := 216) rfl (hb hby at_208) rfl ((if0 _ _).trans (feq (by decide : ¬ ((1 : Int32) = (0 : Int32)))).2) (by decide) (by decide) ?_
          show Steps p.tables e below (T96.setTop (mkF m 216 (LS_IJsJsJsIRRRIInRn p0 q1 q2 q3 p4 b1 b4 b8 (1 : Int32) (1 : Int32) b8) [])) _
          refine XS.iconst X96.here hx rfl (hb hby at_216) ?_
          refine XS.goto X96.here hx rfl (pc0 := 217) (pc' := 221) rfl (hb hby at_217) (by decide) (by decide) ?_
          refine XS.istore X96.here hx rfl (hb hby at_221) rfl (l' := (LS_IJsJsJsIRRRIInRn p0 q1 q2 q3 p4 b1 b4 b8 (1 : Int32) (1 : Int32) b8)) rfl ?_
          show Steps p.tables e below (T96.setTop (mkF m 223 (LS_IJsJsJsIRRRIInRn p0 q1 q2 q3 p4 b1 b4 b8 (1 : Int32) (1 : Int32) b8) [])) _
          refine XS.iload X96.here hx rfl (hb hby at_223) rfl ?_
          refine XS.ifNo X96.here hx rfl (hb hby at_225) rfl ((if0 _ _).trans (feq (by decide : ¬ ((1 : Int32) = (0 : Int32)))).1) ?_
          refine XS.aload X96.here hx rfl (hb hby at_228) rfl rfl ?_
          exact k
        obtain ⟨cq97, kq97, q97a, q97b, q97c⟩ := isOf hZ16 e96 A4_v94
        obtain ⟨_, _, ⟨T97, L97, k97, n97⟩, -, X97, ⟨Lc97, hQ97, l97, y97, z97⟩, st97⟩ := X96.virtualBack hx (y := (⟨"com/example/weighted_scheduler/weightedscheduler/RequestBody", "isWhole", "()Z"⟩ : MethodName)) (z := (⟨"com/example/weighted_scheduler/weightedscheduler/RequestBody", "isWhole", "()Z"⟩ : MethodName)) ho16 (mvT hZ16 (hw _ (List.mem_of_getElem? (i := 110) rfl))) (mvT hZ16 (hw _ (List.mem_of_getElem? (i := 111) rfl))) (notFace_of_selects (args := #[]) (mvT hZ16 (hw _ (List.mem_of_getElem? (i := 113) rfl)))) (mvT hZ16 (hw _ (List.mem_of_getElem? (i := 113) rfl))) (mvT hZ16 (hw _ (List.mem_of_getElem? (i := 112) rfl))) (by decide) (backOf (W := 0) (rmiw0 l Z a0 hw [] b4 b8 T91.heap n0 Z0_v92 Fr91) hZ16 (hw _ (List.mem_of_getElem? (i := 114) rfl)) (hw _ (List.mem_of_getElem? (i := 13) rfl)) (by decide) (by decide)) q97a q97c (g := (mkF m 230 (LS_IJsJsJsIRRRIInRn p0 q1 q2 q3 p4 b1 b4 b8 (1 : Int32) (1 : Int32) b8) [(.ref b4)])) rfl (by rw [hml]; rfl) (Steps.refl _) (argsL := []) (rest := []) (lenOf pd___Z rfl) rfl (by show 2 * 0 + _ ≤ _; exact Nat.le_of_eq rfl) (hb hby at_230) (fun _ _ => ⟨rfl, e96, (by decide : 9 + 0 ≤ _), (by decide : 2835 + 0 ≤ _)⟩)
        dsimp only [Pt.U, Pt.locs, Pt.cells, Pt.slots] at X97 l97 y97 z97 st97 hQ97
        subst l97 y97 z97
        obtain ⟨rfl, N97q, e97⟩ := hQ97
        have N97 := Fr.app N96 N97q
        refine own_go (B := T97.setTop (mkF m 233 (LS_IJsJsJsIRRRIInRn p0 q1 q2 q3 p4 b1 b4 b8 (1 : Int32) (1 : Int32) b8) [(.int (0 : Int32))])) (fun t k => st97.trans k) ?_
        refine own_go (B := T97.setTop (mkF m 255 (LS_IJsJsJsIRRRIInRn p0 q1 q2 q3 p4 b1 b4 b8 (1 : Int32) (1 : Int32) b8) [(.int (1 : Int32))])) (fun t k => ?_) ?_
        · refine XS.iload X97.here hx rfl (hb hby at_233) rfl ?_
          refine XS.ifYes X97.here hx rfl (pc0 := 235) (pc' := 242) rfl (hb hby at_235) rfl ((if0 _ _).trans (feq (by decide : ¬ ((1 : Int32) = (0 : Int32)))).2) (by decide) (by decide) ?_
          show Steps p.tables e below (T97.setTop (mkF m 242 (LS_IJsJsJsIRRRIInRn p0 q1 q2 q3 p4 b1 b4 b8 (1 : Int32) (1 : Int32) b8) [(.int (0 : Int32))])) _
          refine XS.iconst X97.here hx rfl (hb hby at_242) ?_
          refine XS.icmpNo X97.here hx rfl (hb hby at_243) rfl (teq (by decide : (0 : Int32) = (0 : Int32))).2 ?_
          refine XS.iconst X97.here hx rfl (hb hby at_246) ?_
          show Steps p.tables e below (T97.setTop (mkF m 247 (LS_IJsJsJsIRRRIInRn p0 q1 q2 q3 p4 b1 b4 b8 (1 : Int32) (1 : Int32) b8) [(.int (1 : Int32))])) _
          refine XS.goto X97.here hx rfl (pc0 := 247) (pc' := 251) rfl (hb hby at_247) (by decide) (by decide) ?_
          refine XS.istore X97.here hx rfl (hb hby at_251) rfl (l' := (LS_IJsJsJsIRRRIInRn p0 q1 q2 q3 p4 b1 b4 b8 (1 : Int32) (1 : Int32) b8)) rfl ?_
          refine XS.iload X97.here hx rfl (hb hby at_253) rfl ?_
          exact k
        have hk16_v98 := Nat.le_trans hk16 K47.1
        have hk16_v99 := Nat.le_trans hk16_v98 K65.1
        have hk16_v100 := Nat.le_trans hk16_v99 K91.1
        obtain ⟨fs, hr, hrun, hended, hRW⟩ := Stand.leaveW (s := s) (vm₁ := T16.vm) X97 hS16 (by rw [e97]; exact hk16_v100) (v := some (.int (1 : Int32))) (fun h => by rw [Bd.returns] at h; cases h) (BodyLoose.notSynchronized Bd)
        refine ⟨_, _, ?_, hrun, hended, _, _, rfl, ?_, hRW.1, hRW.2.1, hRW.2.2.1, hRW.2.2.2.mono (by decide) (by decide)⟩
        · show Steps p.tables e below (T97.setTop (mkF m 255 (LS_IJsJsJsIRRRIInRn p0 q1 q2 q3 p4 b1 b4 b8 (1 : Int32) (1 : Int32) b8) [(.int (1 : Int32))])) _
          exact retN X97 hx (t := .boolean) Bd.returns (by simp) (hb hby at_255) hr
        · show Q0 Z p0 q1 q2 q3 p4 wm uu sn h0 n0 _ T97.heap _
          rw [e97]
          exact ⟨rfl, N97⟩
      · refine own_go (B := T93.setTop (mkF m 203 (LS_IJsJsJsIRRRIInRR p0 q1 q2 q3 p4 b1 b4 b8 (1 : Int32) (1 : Int32) b8 b8) [(.ref b8), (.ref b4)])) (fun t k => ?_) ?_
        · refine XS.ifNo X93.here hx rfl (hb hby at_188) rfl ((if0 _ _).trans (feq hc188_95).1) ?_
          refine XS.aload X93.here hx rfl (hb hby at_191) rfl rfl ?_
          show Steps p.tables e below (T93.setTop (mkF m 193 (LS_IJsJsJsIRRRIInRu p0 q1 q2 q3 p4 b1 b4 b8 (1 : Int32) (1 : Int32) b8) [(.ref b8)])) _
          refine XS.goto X93.here hx rfl (pc0 := 193) (pc' := 197) rfl (hb hby at_193) (by decide) (by decide) ?_
          refine XS.astore X93.here hx rfl (hb hby at_197) rfl rfl (l' := (LS_IJsJsJsIRRRIInRR p0 q1 q2 q3 p4 b1 b4 b8 (1 : Int32) (1 : Int32) b8 b8)) rfl ?_
          refine XS.aload X93.here hx rfl (hb hby at_199) rfl rfl ?_
          show Steps p.tables e below (T93.setTop (mkF m 201 (LS_IJsJsJsIRRRIInRR p0 q1 q2 q3 p4 b1 b4 b8 (1 : Int32) (1 : Int32) b8 b8) [(.ref b4)])) _
          refine XS.aload X93.here hx rfl (hb hby at_201) rfl rfl ?_
          exact k
        obtain ⟨cq101, kq101, q101a, q101b, q101c⟩ := isOf hZ16 e93 A4_v94
        obtain ⟨_, _, ⟨T101, L101, k101, n101⟩, -, X101, ⟨Lc101, hQ101, l101, y101, z101⟩, st101⟩ := X93.virtualBack hx (y := (⟨"com/example/weighted_scheduler/weightedscheduler/RequestBody", "refuse", "(Lcom/example/weighted_scheduler/weightedscheduler/ApiError;)V"⟩ : MethodName)) (z := (⟨"com/example/weighted_scheduler/weightedscheduler/RequestBody", "refuse", "(Lcom/example/weighted_scheduler/weightedscheduler/ApiError;)V"⟩ : MethodName)) ho16 (mvT hZ16 (hw _ (List.mem_of_getElem? (i := 119) rfl))) (mvT hZ16 (hw _ (List.mem_of_getElem? (i := 120) rfl))) (notFace_of_selects (args := #[]) (mvT hZ16 (hw _ (List.mem_of_getElem? (i := 122) rfl)))) (mvT hZ16 (hw _ (List.mem_of_getElem? (i := 122) rfl))) (mvT hZ16 (hw _ (List.mem_of_getElem? (i := 121) rfl))) (by decide) (backOf (W := 0) (rmrf3 l Z a0 hw [] b4 b8 b8 T91.heap n0 Z0_v92 Fr91) hZ16 (hw _ (List.mem_of_getElem? (i := 123) rfl)) (hw _ (List.mem_of_getElem? (i := 13) rfl)) (by decide) (by decide)) q101a q101c (g := (mkF m 203 (LS_IJsJsJsIRRRIInRR p0 q1 q2 q3 p4 b1 b4 b8 (1 : Int32) (1 : Int32) b8 b8) [(.ref b8), (.ref b4)])) rfl (by rw [hml]; rfl) (Steps.refl _) (argsL := [(.ref b8)]) (rest := []) (lenOf pd__Lcom_example_weighted_scheduler_weightedscheduler_ApiError__V rfl) rfl (by show 2 * 0 + _ ≤ _; exact Nat.le_of_eq rfl) (hb hby at_203) (fun _ _ => ⟨rfl, e93, (by decide : 9 + 0 ≤ _), (by decide : 2835 + 0 ≤ _)⟩)
        dsimp only [Pt.U, Pt.locs, Pt.cells, Pt.slots] at X101 l101 y101 z101 st101 hQ101
        subst l101 y101 z101
        obtain ⟨rfl, N101q, e101⟩ := hQ101
        have N101 := Fr.app N93 N101q
        refine own_go (B := T101.setTop (mkF m 206 (LS_IJsJsJsIRRRIInRR p0 q1 q2 q3 p4 b1 b4 b8 (1 : Int32) (1 : Int32) b8 b8) [])) (fun t k => st101.trans k) ?_
        refine own_go (B := T101.setTop (mkF m 230 (LS_IJsJsJsIRRRIInRR p0 q1 q2 q3 p4 b1 b4 b8 (1 : Int32) (1 : Int32) b8 b8) [(.ref b4)])) (fun t k => ?_) ?_
        · refine XS.iload X101.here hx rfl (hb hby at_206) rfl ?_
          refine XS.ifYes X101.here hx rfl (pc0 := 208) (pc' := 216) rfl (hb hby at_208) rfl ((if0 _ _).trans (feq (by decide : ¬ ((1 : Int32) = (0 : Int32)))).2) (by decide) (by decide) ?_
          show Steps p.tables e below (T101.setTop (mkF m 216 (LS_IJsJsJsIRRRIInRR p0 q1 q2 q3 p4 b1 b4 b8 (1 : Int32) (1 : Int32) b8 b8) [])) _
          refine XS.iconst X101.here hx rfl (hb hby at_216) ?_
          refine XS.goto X101.here hx rfl (pc0 := 217) (pc' := 221) rfl (hb hby at_217) (by decide) (by decide) ?_
          refine XS.istore X101.here hx rfl (hb hby at_221) rfl (l' := (LS_IJsJsJsIRRRIInRR p0 q1 q2 q3 p4 b1 b4 b8 (1 : Int32) (1 : Int32) b8 b8)) rfl ?_
          show Steps p.tables e below (T101.setTop (mkF m 223 (LS_IJsJsJsIRRRIInRR p0 q1 q2 q3 p4 b1 b4 b8 (1 : Int32) (1 : Int32) b8 b8) [])) _
          refine XS.iload X101.here hx rfl (hb hby at_223) rfl ?_
          refine XS.ifNo X101.here hx rfl (hb hby at_225) rfl ((if0 _ _).trans (feq (by decide : ¬ ((1 : Int32) = (0 : Int32)))).1) ?_
          refine XS.aload X101.here hx rfl (hb hby at_228) rfl rfl ?_
          exact k
        obtain ⟨cq102, kq102, q102a, q102b, q102c⟩ := isOf hZ16 e101 A4_v94
        obtain ⟨_, _, ⟨T102, L102, k102, n102⟩, -, X102, ⟨Lc102, hQ102, l102, y102, z102⟩, st102⟩ := X101.virtualBack hx (y := (⟨"com/example/weighted_scheduler/weightedscheduler/RequestBody", "isWhole", "()Z"⟩ : MethodName)) (z := (⟨"com/example/weighted_scheduler/weightedscheduler/RequestBody", "isWhole", "()Z"⟩ : MethodName)) ho16 (mvT hZ16 (hw _ (List.mem_of_getElem? (i := 110) rfl))) (mvT hZ16 (hw _ (List.mem_of_getElem? (i := 111) rfl))) (notFace_of_selects (args := #[]) (mvT hZ16 (hw _ (List.mem_of_getElem? (i := 113) rfl)))) (mvT hZ16 (hw _ (List.mem_of_getElem? (i := 113) rfl))) (mvT hZ16 (hw _ (List.mem_of_getElem? (i := 112) rfl))) (by decide) (backOf (W := 0) (rmiw0 l Z a0 hw [] b4 b8 T91.heap n0 Z0_v92 Fr91) hZ16 (hw _ (List.mem_of_getElem? (i := 114) rfl)) (hw _ (List.mem_of_getElem? (i := 13) rfl)) (by decide) (by decide)) q102a q102c (g := (mkF m 230 (LS_IJsJsJsIRRRIInRR p0 q1 q2 q3 p4 b1 b4 b8 (1 : Int32) (1 : Int32) b8 b8) [(.ref b4)])) rfl (by rw [hml]; rfl) (Steps.refl _) (argsL := []) (rest := []) (lenOf pd___Z rfl) rfl (by show 2 * 0 + _ ≤ _; exact Nat.le_of_eq rfl) (hb hby at_230) (fun _ _ => ⟨rfl, e101, (by decide : 9 + 0 ≤ _), (by decide : 2835 + 0 ≤ _)⟩)
        dsimp only [Pt.U, Pt.locs, Pt.cells, Pt.slots] at X102 l102 y102 z102 st102 hQ102
        subst l102 y102 z102
        obtain ⟨rfl, N102q, e102⟩ := hQ102
        have N102 := Fr.app N101 N102q
        refine own_go (B := T102.setTop (mkF m 233 (LS_IJsJsJsIRRRIInRR p0 q1 q2 q3 p4 b1 b4 b8 (1 : Int32) (1 : Int32) b8 b8) [(.int (0 : Int32))])) (fun t k => st102.trans k) ?_
        refine own_go (B := T102.setTop (mkF m 255 (LS_IJsJsJsIRRRIInRR p0 q1 q2 q3 p4 b1 b4 b8 (1 : Int32) (1 : Int32) b8 b8) [(.int (1 : Int32))])) (fun t k => ?_) ?_
        · refine XS.iload X102.here hx rfl (hb hby at_233) rfl ?_
          refine XS.ifYes X102.here hx rfl (pc0 := 235) (pc' := 242) rfl (hb hby at_235) rfl ((if0 _ _).trans (feq (by decide : ¬ ((1 : Int32) = (0 : Int32)))).2) (by decide) (by decide) ?_
          show Steps p.tables e below (T102.setTop (mkF m 242 (LS_IJsJsJsIRRRIInRR p0 q1 q2 q3 p4 b1 b4 b8 (1 : Int32) (1 : Int32) b8 b8) [(.int (0 : Int32))])) _
          refine XS.iconst X102.here hx rfl (hb hby at_242) ?_
          refine XS.icmpNo X102.here hx rfl (hb hby at_243) rfl (teq (by decide : (0 : Int32) = (0 : Int32))).2 ?_
          refine XS.iconst X102.here hx rfl (hb hby at_246) ?_
          show Steps p.tables e below (T102.setTop (mkF m 247 (LS_IJsJsJsIRRRIInRR p0 q1 q2 q3 p4 b1 b4 b8 (1 : Int32) (1 : Int32) b8 b8) [(.int (1 : Int32))])) _
          refine XS.goto X102.here hx rfl (pc0 := 247) (pc' := 251) rfl (hb hby at_247) (by decide) (by decide) ?_
          refine XS.istore X102.here hx rfl (hb hby at_251) rfl (l' := (LS_IJsJsJsIRRRIInRR p0 q1 q2 q3 p4 b1 b4 b8 (1 : Int32) (1 : Int32) b8 b8)) rfl ?_
          refine XS.iload X102.here hx rfl (hb hby at_253) rfl ?_
          exact k
        have hk16_v103 := Nat.le_trans hk16 K47.1
        have hk16_v104 := Nat.le_trans hk16_v103 K65.1
        have hk16_v105 := Nat.le_trans hk16_v104 K91.1
        obtain ⟨fs, hr, hrun, hended, hRW⟩ := Stand.leaveW (s := s) (vm₁ := T16.vm) X102 hS16 (by rw [e102]; exact hk16_v105) (v := some (.int (1 : Int32))) (fun h => by rw [Bd.returns] at h; cases h) (BodyLoose.notSynchronized Bd)
        refine ⟨_, _, ?_, hrun, hended, _, _, rfl, ?_, hRW.1, hRW.2.1, hRW.2.2.1, hRW.2.2.2.mono (by decide) (by decide)⟩
        · show Steps p.tables e below (T102.setTop (mkF m 255 (LS_IJsJsJsIRRRIInRR p0 q1 q2 q3 p4 b1 b4 b8 (1 : Int32) (1 : Int32) b8 b8) [(.int (1 : Int32))])) _
          exact retN X102 hx (t := .boolean) Bd.returns (by simp) (hb hby at_255) hr
        · show Q0 Z p0 q1 q2 q3 p4 wm uu sn h0 n0 _ T102.heap _
          rw [e102]
          exact ⟨rfl, N102⟩
  · refine own_go (B := T60.setTop (mkF m 67 (LS_IJsJsJsIRRRIIRuu p0 q1 q2 q3 p4 b1 b4 b8 (1 : Int32) (0 : Int32) b8) [(.ref b8), (.ref b4)])) (fun t k => ?_) ?_
    · refine XS.ifNo X60.here hx rfl (hb hby at_52) rfl ((if0 _ _).trans (feq hc52_64).1) ?_
      refine XS.aload X60.here hx rfl (hb hby at_55) rfl rfl ?_
      show Steps p.tables e below (T60.setTop (mkF m 57 (LS_IJsJsJsIRRRIIuuu p0 q1 q2 q3 p4 b1 b4 b8 (1 : Int32) (0 : Int32)) [(.ref b8)])) _
      refine XS.goto X60.here hx rfl (pc0 := 57) (pc' := 61) rfl (hb hby at_57) (by decide) (by decide) ?_
      refine XS.astore X60.here hx rfl (hb hby at_61) rfl rfl (l' := (LS_IJsJsJsIRRRIIRuu p0 q1 q2 q3 p4 b1 b4 b8 (1 : Int32) (0 : Int32) b8)) rfl ?_
      refine XS.aload X60.here hx rfl (hb hby at_63) rfl rfl ?_
      show Steps p.tables e below (T60.setTop (mkF m 65 (LS_IJsJsJsIRRRIIRuu p0 q1 q2 q3 p4 b1 b4 b8 (1 : Int32) (0 : Int32) b8) [(.ref b4)])) _
      refine XS.aload X60.here hx rfl (hb hby at_65) rfl rfl ?_
      exact k
    obtain ⟨cq106, kq106, q106a, q106b, q106c⟩ := isOf hZ16 e60 A4_v63
    obtain ⟨_, _, ⟨T106, L106, k106, n106⟩, -, X106, ⟨Lc106, hQ106, l106, y106, z106⟩, st106⟩ := X60.virtualBack hx (y := (⟨"com/example/weighted_scheduler/weightedscheduler/RequestBody", "refuse", "(Lcom/example/weighted_scheduler/weightedscheduler/ApiError;)V"⟩ : MethodName)) (z := (⟨"com/example/weighted_scheduler/weightedscheduler/RequestBody", "refuse", "(Lcom/example/weighted_scheduler/weightedscheduler/ApiError;)V"⟩ : MethodName)) ho16 (mvT hZ16 (hw _ (List.mem_of_getElem? (i := 119) rfl))) (mvT hZ16 (hw _ (List.mem_of_getElem? (i := 120) rfl))) (notFace_of_selects (args := #[]) (mvT hZ16 (hw _ (List.mem_of_getElem? (i := 122) rfl)))) (mvT hZ16 (hw _ (List.mem_of_getElem? (i := 122) rfl))) (mvT hZ16 (hw _ (List.mem_of_getElem? (i := 121) rfl))) (by decide) (backOf (W := 0) (rmrf1 l Z a0 hw [] b4 b8 T47.heap n0 Z0_v55 A4_v63 Fr7_v51 Fs7_v59 g_b4) hZ16 (hw _ (List.mem_of_getElem? (i := 123) rfl)) (hw _ (List.mem_of_getElem? (i := 13) rfl)) (by decide) (by decide)) q106a q106c (g := (mkF m 67 (LS_IJsJsJsIRRRIIRuu p0 q1 q2 q3 p4 b1 b4 b8 (1 : Int32) (0 : Int32) b8) [(.ref b8), (.ref b4)])) rfl (by rw [hml]; rfl) (Steps.refl _) (argsL := [(.ref b8)]) (rest := []) (lenOf pd__Lcom_example_weighted_scheduler_weightedscheduler_ApiError__V rfl) rfl (by show 2 * 0 + _ ≤ _; exact Nat.le_of_eq rfl) (hb hby at_67) (fun _ _ => ⟨rfl, e60, (by decide : 9 + 0 ≤ _), (by decide : 2835 + 0 ≤ _)⟩)
    dsimp only [Pt.U, Pt.locs, Pt.cells, Pt.slots] at X106 l106 y106 z106 st106 hQ106
    subst l106 y106 z106
    obtain ⟨rfl, N106q, K106, Fr106, Fs106⟩ := hQ106
    have N106 := Fr.app N60 N106q
    refine own_go (B := T106.setTop (mkF m 70 (LS_IJsJsJsIRRRIIRuu p0 q1 q2 q3 p4 b1 b4 b8 (1 : Int32) (0 : Int32) b8) [])) (fun t k => st106.trans k) ?_
    refine own_go (B := T106.setTop (mkF m 94 (LS_IJsJsJsIRRRIIRuu p0 q1 q2 q3 p4 b1 b4 b8 (1 : Int32) (1 : Int32) b8) [(.ref b4)])) (fun t k => ?_) ?_
    · refine XS.iload X106.here hx rfl (hb hby at_70) rfl ?_
      refine XS.ifNo X106.here hx rfl (hb hby at_72) rfl ((if0 _ _).trans (teq (by decide : (0 : Int32) = (0 : Int32))).2) ?_
      show Steps p.tables e below (T106.setTop (mkF m 75 (LS_IJsJsJsIRRRIIRuu p0 q1 q2 q3 p4 b1 b4 b8 (1 : Int32) (0 : Int32) b8) [])) _
      refine XS.aload X106.here hx rfl (hb hby at_75) rfl rfl ?_
      refine XS.ifnullNo X106.here hx rfl (hb hby at_77) rfl ?_
      refine XS.iconst X106.here hx rfl (hb hby at_80) ?_
      show Steps p.tables e below (T106.setTop (mkF m 81 (LS_IJsJsJsIRRRIIRuu p0 q1 q2 q3 p4 b1 b4 b8 (1 : Int32) (0 : Int32) b8) [(.int (1 : Int32))])) _
      refine XS.goto X106.here hx rfl (pc0 := 81) (pc' := 85) rfl (hb hby at_81) (by decide) (by decide) ?_
      refine XS.istore X106.here hx rfl (hb hby at_85) rfl (l' := (LS_IJsJsJsIRRRIIRuu p0 q1 q2 q3 p4 b1 b4 b8 (1 : Int32) (1 : Int32) b8)) rfl ?_
      refine XS.iload X106.here hx rfl (hb hby at_87) rfl ?_
      show Steps p.tables e below (T106.setTop (mkF m 89 (LS_IJsJsJsIRRRIIRuu p0 q1 q2 q3 p4 b1 b4 b8 (1 : Int32) (1 : Int32) b8) [(.int (1 : Int32))])) _
      refine XS.ifNo X106.here hx rfl (hb hby at_89) rfl ((if0 _ _).trans (feq (by decide : ¬ ((1 : Int32) = (0 : Int32)))).1) ?_
      refine XS.aload X106.here hx rfl (hb hby at_92) rfl rfl ?_
      exact k
    have Z0_v107 := Nat.le_trans Z0_v55 K106.1
    have A4_v109 := A4_v63.keep K106
    obtain ⟨cq108, kq108, q108a, q108b, q108c⟩ := isOf hZ16 rfl A4_v109
    obtain ⟨_, _, ⟨T108, L108, k108, n108⟩, -, X108, ⟨Lc108, hQ108, l108, y108, z108⟩, st108⟩ := X106.virtualBack hx (y := (⟨"com/example/weighted_scheduler/weightedscheduler/RequestBody", "isWhole", "()Z"⟩ : MethodName)) (z := (⟨"com/example/weighted_scheduler/weightedscheduler/RequestBody", "isWhole", "()Z"⟩ : MethodName)) ho16 (mvT hZ16 (hw _ (List.mem_of_getElem? (i := 110) rfl))) (mvT hZ16 (hw _ (List.mem_of_getElem? (i := 111) rfl))) (notFace_of_selects (args := #[]) (mvT hZ16 (hw _ (List.mem_of_getElem? (i := 113) rfl)))) (mvT hZ16 (hw _ (List.mem_of_getElem? (i := 113) rfl))) (mvT hZ16 (hw _ (List.mem_of_getElem? (i := 112) rfl))) (by decide) (backOf (W := 0) (rmiw0 l Z a0 hw [] b4 b8 T106.heap n0 Z0_v107 Fr106) hZ16 (hw _ (List.mem_of_getElem? (i := 114) rfl)) (hw _ (List.mem_of_getElem? (i := 13) rfl)) (by decide) (by decide)) q108a q108c (g := (mkF m 94 (LS_IJsJsJsIRRRIIRuu p0 q1 q2 q3 p4 b1 b4 b8 (1 : Int32) (1 : Int32) b8) [(.ref b4)])) rfl (by rw [hml]; rfl) (Steps.refl _) (argsL := []) (rest := []) (lenOf pd___Z rfl) rfl (by show 2 * 0 + _ ≤ _; exact Nat.le_of_eq rfl) (hb hby at_94) (fun _ _ => ⟨rfl, rfl, (by decide : 9 + 0 ≤ _), (by decide : 2835 + 0 ≤ _)⟩)
    dsimp only [Pt.U, Pt.locs, Pt.cells, Pt.slots] at X108 l108 y108 z108 st108 hQ108
    subst l108 y108 z108
    obtain ⟨rfl, N108q, e108⟩ := hQ108
    have N108 := Fr.app N106 N108q
    refine own_go (B := T108.setTop (mkF m 97 (LS_IJsJsJsIRRRIIRuu p0 q1 q2 q3 p4 b1 b4 b8 (1 : Int32) (1 : Int32) b8) [(.int (0 : Int32))])) (fun t k => st108.trans k) ?_
    refine own_go (B := T108.setTop (mkF m 120 (LS_IJsJsJsIRRRIIRuu p0 q1 q2 q3 p4 b1 b4 b8 (1 : Int32) (1 : Int32) b8) [(.int (p0 &&& (2 : Int32)))])) (fun t k => ?_) ?_
    · refine XS.iload X108.here hx rfl (hb hby at_97) rfl ?_
      refine XS.ifYes X108.here hx rfl (pc0 := 99) (pc' := 106) rfl (hb hby at_99) rfl ((if0 _ _).trans (feq (by decide : ¬ ((1 : Int32) = (0 : Int32)))).2) (by decide) (by decide) ?_
      show Steps p.tables e below (T108.setTop (mkF m 106 (LS_IJsJsJsIRRRIIRuu p0 q1 q2 q3 p4 b1 b4 b8 (1 : Int32) (1 : Int32) b8) [(.int (0 : Int32))])) _
      refine XS.iconst X108.here hx rfl (hb hby at_106) ?_
      refine XS.icmpNo X108.here hx rfl (hb hby at_107) rfl (teq (by decide : (0 : Int32) = (0 : Int32))).2 ?_
      refine XS.iconst X108.here hx rfl (hb hby at_110) ?_
      show Steps p.tables e below (T108.setTop (mkF m 111 (LS_IJsJsJsIRRRIIRuu p0 q1 q2 q3 p4 b1 b4 b8 (1 : Int32) (1 : Int32) b8) [(.int (1 : Int32))])) _
      refine XS.goto X108.here hx rfl (pc0 := 111) (pc' := 115) rfl (hb hby at_111) (by decide) (by decide) ?_
      refine XS.istore X108.here hx rfl (hb hby at_115) rfl (l' := (LS_IJsJsJsIRRRIIRuu p0 q1 q2 q3 p4 b1 b4 b8 (1 : Int32) (1 : Int32) b8)) rfl ?_
      refine XS.iloadN X108.here hx rfl (hb hby at_117) rfl ?_
      show Steps p.tables e below (T108.setTop (mkF m 118 (LS_IJsJsJsIRRRIIRuu p0 q1 q2 q3 p4 b1 b4 b8 (1 : Int32) (1 : Int32) b8) [(.int p0)])) _
      refine XS.iconst X108.here hx rfl (hb hby at_118) ?_
      refine XS.iand X108.here hx rfl (hb hby at_119) rfl ?_
      exact k
    by_cases hc120_110 : (p0 &&& (2 : Int32)) = (0 : Int32)
    · refine own_go (B := T108.setTop (mkF m 135 (LS_IJsJsJsIRRRIIRnu p0 q1 q2 q3 p4 b1 b4 b8 (1 : Int32) (1 : Int32) b8) [.null, (.ref b4)])) (fun t k => ?_) ?_
      · refine XS.ifYes X108.here hx rfl (pc0 := 120) (pc' := 128) rfl (hb hby at_120) rfl ((if0 _ _).trans (teq hc120_110).1) (by decide) (by decide) ?_
        refine XS.aconstNull X108.here hx rfl (hb hby at_128) ?_
        show Steps p.tables e below (T108.setTop (mkF m 129 (LS_IJsJsJsIRRRIIRuu p0 q1 q2 q3 p4 b1 b4 b8 (1 : Int32) (1 : Int32) b8) [.null])) _
        refine XS.astore X108.here hx rfl (hb hby at_129) rfl rfl (l' := (LS_IJsJsJsIRRRIIRnu p0 q1 q2 q3 p4 b1 b4 b8 (1 : Int32) (1 : Int32) b8)) rfl ?_
        refine XS.aload X108.here hx rfl (hb hby at_131) rfl rfl ?_
        refine XS.aload X108.here hx rfl (hb hby at_133) rfl rfl ?_
        exact k
      obtain ⟨cq111, kq111, q111a, q111b, q111c⟩ := isOf hZ16 e108 A4_v109
      obtain ⟨_, _, ⟨T111, L111, k111, n111⟩, -, X111, ⟨Lc111, hQ111, l111, y111, z111⟩, st111⟩ := X108.virtualBack hx (y := (⟨"com/example/weighted_scheduler/weightedscheduler/RequestBody", "refuse", "(Lcom/example/weighted_scheduler/weightedscheduler/ApiError;)V"⟩ : MethodName)) (z := (⟨"com/example/weighted_scheduler/weightedscheduler/RequestBody", "refuse", "(Lcom/example/weighted_scheduler/weightedscheduler/ApiError;)V"⟩ : MethodName)) ho16 (mvT hZ16 (hw _ (List.mem_of_getElem? (i := 119) rfl))) (mvT hZ16 (hw _ (List.mem_of_getElem? (i := 120) rfl))) (notFace_of_selects (args := #[]) (mvT hZ16 (hw _ (List.mem_of_getElem? (i := 122) rfl)))) (mvT hZ16 (hw _ (List.mem_of_getElem? (i := 122) rfl))) (mvT hZ16 (hw _ (List.mem_of_getElem? (i := 121) rfl))) (by decide) (backOf (W := 0) (rmrf2 l Z a0 hw [] b4 b8 T106.heap n0 Z0_v107 Fr106) hZ16 (hw _ (List.mem_of_getElem? (i := 123) rfl)) (hw _ (List.mem_of_getElem? (i := 13) rfl)) (by decide) (by decide)) q111a q111c (g := (mkF m 135 (LS_IJsJsJsIRRRIIRnu p0 q1 q2 q3 p4 b1 b4 b8 (1 : Int32) (1 : Int32) b8) [.null, (.ref b4)])) rfl (by rw [hml]; rfl) (Steps.refl _) (argsL := [.null]) (rest := []) (lenOf pd__Lcom_example_weighted_scheduler_weightedscheduler_ApiError__V rfl) rfl (by show 2 * 0 + _ ≤ _; exact Nat.le_of_eq rfl) (hb hby at_135) (fun _ _ => ⟨rfl, e108, (by decide : 9 + 0 ≤ _), (by decide : 2835 + 0 ≤ _)⟩)
      dsimp only [Pt.U, Pt.locs, Pt.cells, Pt.slots] at X111 l111 y111 z111 st111 hQ111
      subst l111 y111 z111
      obtain ⟨rfl, N111q, e111⟩ := hQ111
      have N111 := Fr.app N108 N111q
      refine own_go (B := T111.setTop (mkF m 138 (LS_IJsJsJsIRRRIIRnu p0 q1 q2 q3 p4 b1 b4 b8 (1 : Int32) (1 : Int32) b8) [])) (fun t k => st111.trans k) ?_
      refine own_go (B := T111.setTop (mkF m 162 (LS_IJsJsJsIRRRIIRnu p0 q1 q2 q3 p4 b1 b4 b8 (1 : Int32) (1 : Int32) b8) [(.ref b4)])) (fun t k => ?_) ?_
      · refine XS.iload X111.here hx rfl (hb hby at_138) rfl ?_
        refine XS.ifYes X111.here hx rfl (pc0 := 140) (pc' := 148) rfl (hb hby at_140) rfl ((if0 _ _).trans (feq (by decide : ¬ ((1 : Int32) = (0 : Int32)))).2) (by decide) (by decide) ?_
        show Steps p.tables e below (T111.setTop (mkF m 148 (LS_IJsJsJsIRRRIIRnu p0 q1 q2 q3 p4 b1 b4 b8 (1 : Int32) (1 : Int32) b8) [])) _
        refine XS.iconst X111.here hx rfl (hb hby at_148) ?_
        refine XS.goto X111.here hx rfl (pc0 := 149) (pc' := 153) rfl (hb hby at_149) (by decide) (by decide) ?_
        refine XS.istore X111.here hx rfl (hb hby at_153) rfl (l' := (LS_IJsJsJsIRRRIIRnu p0 q1 q2 q3 p4 b1 b4 b8 (1 : Int32) (1 : Int32) b8)) rfl ?_
        show Steps p.tables e below (T111.setTop (mkF m 155 (LS_IJsJsJsIRRRIIRnu p0 q1 q2 q3 p4 b1 b4 b8 (1 : Int32) (1 : Int32) b8) [])) _
        refine XS.iload X111.here hx rfl (hb hby at_155) rfl ?_
        refine XS.ifNo X111.here hx rfl (hb hby at_157) rfl ((if0 _ _).trans (feq (by decide : ¬ ((1 : Int32) = (0 : Int32)))).1) ?_
        refine XS.aload X111.here hx rfl (hb hby at_160) rfl rfl ?_
        exact k
      obtain ⟨cq112, kq112, q112a, q112b, q112c⟩ := isOf hZ16 e111 A4_v109
      obtain ⟨_, _, ⟨T112, L112, k112, n112⟩, -, X112, ⟨Lc112, hQ112, l112, y112, z112⟩, st112⟩ := X111.virtualBack hx (y := (⟨"com/example/weighted_scheduler/weightedscheduler/RequestBody", "isWhole", "()Z"⟩ : MethodName)) (z := (⟨"com/example/weighted_scheduler/weightedscheduler/RequestBody", "isWhole", "()Z"⟩ : MethodName)) ho16 (mvT hZ16 (hw _ (List.mem_of_getElem? (i := 110) rfl))) (mvT hZ16 (hw _ (List.mem_of_getElem? (i := 111) rfl))) (notFace_of_selects (args := #[]) (mvT hZ16 (hw _ (List.mem_of_getElem? (i := 113) rfl)))) (mvT hZ16 (hw _ (List.mem_of_getElem? (i := 113) rfl))) (mvT hZ16 (hw _ (List.mem_of_getElem? (i := 112) rfl))) (by decide) (backOf (W := 0) (rmiw0 l Z a0 hw [] b4 b8 T106.heap n0 Z0_v107 Fr106) hZ16 (hw _ (List.mem_of_getElem? (i := 114) rfl)) (hw _ (List.mem_of_getElem? (i := 13) rfl)) (by decide) (by decide)) q112a q112c (g := (mkF m 162 (LS_IJsJsJsIRRRIIRnu p0 q1 q2 q3 p4 b1 b4 b8 (1 : Int32) (1 : Int32) b8) [(.ref b4)])) rfl (by rw [hml]; rfl) (Steps.refl _) (argsL := []) (rest := []) (lenOf pd___Z rfl) rfl (by show 2 * 0 + _ ≤ _; exact Nat.le_of_eq rfl) (hb hby at_162) (fun _ _ => ⟨rfl, e111, (by decide : 9 + 0 ≤ _), (by decide : 2835 + 0 ≤ _)⟩)
      dsimp only [Pt.U, Pt.locs, Pt.cells, Pt.slots] at X112 l112 y112 z112 st112 hQ112
      subst l112 y112 z112
      obtain ⟨rfl, N112q, e112⟩ := hQ112
      have N112 := Fr.app N111 N112q
      refine own_go (B := T112.setTop (mkF m 165 (LS_IJsJsJsIRRRIIRnu p0 q1 q2 q3 p4 b1 b4 b8 (1 : Int32) (1 : Int32) b8) [(.int (0 : Int32))])) (fun t k => st112.trans k) ?_
      refine own_go (B := T112.setTop (mkF m 188 (LS_IJsJsJsIRRRIIRnu p0 q1 q2 q3 p4 b1 b4 b8 (1 : Int32) (1 : Int32) b8) [(.int (p0 &&& (4 : Int32)))])) (fun t k => ?_) ?_
      · refine XS.iload X112.here hx rfl (hb hby at_165) rfl ?_
        refine XS.ifYes X112.here hx rfl (pc0 := 167) (pc' := 174) rfl (hb hby at_167) rfl ((if0 _ _).trans (feq (by decide : ¬ ((1 : Int32) = (0 : Int32)))).2) (by decide) (by decide) ?_
        show Steps p.tables e below (T112.setTop (mkF m 174 (LS_IJsJsJsIRRRIIRnu p0 q1 q2 q3 p4 b1 b4 b8 (1 : Int32) (1 : Int32) b8) [(.int (0 : Int32))])) _
        refine XS.iconst X112.here hx rfl (hb hby at_174) ?_
        refine XS.icmpNo X112.here hx rfl (hb hby at_175) rfl (teq (by decide : (0 : Int32) = (0 : Int32))).2 ?_
        refine XS.iconst X112.here hx rfl (hb hby at_178) ?_
        show Steps p.tables e below (T112.setTop (mkF m 179 (LS_IJsJsJsIRRRIIRnu p0 q1 q2 q3 p4 b1 b4 b8 (1 : Int32) (1 : Int32) b8) [(.int (1 : Int32))])) _
        refine XS.goto X112.here hx rfl (pc0 := 179) (pc' := 183) rfl (hb hby at_179) (by decide) (by decide) ?_
        refine XS.istore X112.here hx rfl (hb hby at_183) rfl (l' := (LS_IJsJsJsIRRRIIRnu p0 q1 q2 q3 p4 b1 b4 b8 (1 : Int32) (1 : Int32) b8)) rfl ?_
        refine XS.iloadN X112.here hx rfl (hb hby at_185) rfl ?_
        show Steps p.tables e below (T112.setTop (mkF m 186 (LS_IJsJsJsIRRRIIRnu p0 q1 q2 q3 p4 b1 b4 b8 (1 : Int32) (1 : Int32) b8) [(.int p0)])) _
        refine XS.iconst X112.here hx rfl (hb hby at_186) ?_
        refine XS.iand X112.here hx rfl (hb hby at_187) rfl ?_
        exact k
      by_cases hc188_113 : (p0 &&& (4 : Int32)) = (0 : Int32)
      · refine own_go (B := T112.setTop (mkF m 203 (LS_IJsJsJsIRRRIIRnn p0 q1 q2 q3 p4 b1 b4 b8 (1 : Int32) (1 : Int32) b8) [.null, (.ref b4)])) (fun t k => ?_) ?_
        · refine XS.ifYes X112.here hx rfl (pc0 := 188) (pc' := 196) rfl (hb hby at_188) rfl ((if0 _ _).trans (teq hc188_113).1) (by decide) (by decide) ?_
          refine XS.aconstNull X112.here hx rfl (hb hby at_196) ?_
          show Steps p.tables e below (T112.setTop (mkF m 197 (LS_IJsJsJsIRRRIIRnu p0 q1 q2 q3 p4 b1 b4 b8 (1 : Int32) (1 : Int32) b8) [.null])) _
          refine XS.astore X112.here hx rfl (hb hby at_197) rfl rfl (l' := (LS_IJsJsJsIRRRIIRnn p0 q1 q2 q3 p4 b1 b4 b8 (1 : Int32) (1 : Int32) b8)) rfl ?_
          refine XS.aload X112.here hx rfl (hb hby at_199) rfl rfl ?_
          refine XS.aload X112.here hx rfl (hb hby at_201) rfl rfl ?_
          exact k
        obtain ⟨cq114, kq114, q114a, q114b, q114c⟩ := isOf hZ16 e112 A4_v109
        obtain ⟨_, _, ⟨T114, L114, k114, n114⟩, -, X114, ⟨Lc114, hQ114, l114, y114, z114⟩, st114⟩ := X112.virtualBack hx (y := (⟨"com/example/weighted_scheduler/weightedscheduler/RequestBody", "refuse", "(Lcom/example/weighted_scheduler/weightedscheduler/ApiError;)V"⟩ : MethodName)) (z := (⟨"com/example/weighted_scheduler/weightedscheduler/RequestBody", "refuse", "(Lcom/example/weighted_scheduler/weightedscheduler/ApiError;)V"⟩ : MethodName)) ho16 (mvT hZ16 (hw _ (List.mem_of_getElem? (i := 119) rfl))) (mvT hZ16 (hw _ (List.mem_of_getElem? (i := 120) rfl))) (notFace_of_selects (args := #[]) (mvT hZ16 (hw _ (List.mem_of_getElem? (i := 122) rfl)))) (mvT hZ16 (hw _ (List.mem_of_getElem? (i := 122) rfl))) (mvT hZ16 (hw _ (List.mem_of_getElem? (i := 121) rfl))) (by decide) (backOf (W := 0) (rmrf2 l Z a0 hw [] b4 b8 T106.heap n0 Z0_v107 Fr106) hZ16 (hw _ (List.mem_of_getElem? (i := 123) rfl)) (hw _ (List.mem_of_getElem? (i := 13) rfl)) (by decide) (by decide)) q114a q114c (g := (mkF m 203 (LS_IJsJsJsIRRRIIRnn p0 q1 q2 q3 p4 b1 b4 b8 (1 : Int32) (1 : Int32) b8) [.null, (.ref b4)])) rfl (by rw [hml]; rfl) (Steps.refl _) (argsL := [.null]) (rest := []) (lenOf pd__Lcom_example_weighted_scheduler_weightedscheduler_ApiError__V rfl) rfl (by show 2 * 0 + _ ≤ _; exact Nat.le_of_eq rfl) (hb hby at_203) (fun _ _ => ⟨rfl, e112, (by decide : 9 + 0 ≤ _), (by decide : 2835 + 0 ≤ _)⟩)
        dsimp only [Pt.U, Pt.locs, Pt.cells, Pt.slots] at X114 l114 y114 z114 st114 hQ114
        subst l114 y114 z114
        obtain ⟨rfl, N114q, e114⟩ := hQ114
        have N114 := Fr.app N112 N114q
        refine own_go (B := T114.setTop (mkF m 206 (LS_IJsJsJsIRRRIIRnn p0 q1 q2 q3 p4 b1 b4 b8 (1 : Int32) (1 : Int32) b8) [])) (fun t k => st114.trans k) ?_
        refine own_go (B := T114.setTop (mkF m 230 (LS_IJsJsJsIRRRIIRnn p0 q1 q2 q3 p4 b1 b4 b8 (1 : Int32) (1 : Int32) b8) [(.ref b4)])) (fun t k => ?_) ?_
        · refine XS.iload X114.here hx rfl (hb hby at_206) rfl ?_
          refine XS.ifYes X114.here hx rfl (pc0 := 208) (pc' := 216) rfl (hb hby at_208) rfl ((if0 _ _).trans (feq (by decide : ¬ ((1 : Int32) = (0 : Int32)))).2) (by decide) (by decide) ?_
          show Steps p.tables e below (T114.setTop (mkF m 216 (LS_IJsJsJsIRRRIIRnn p0 q1 q2 q3 p4 b1 b4 b8 (1 : Int32) (1 : Int32) b8) [])) _
          refine XS.iconst X114.here hx rfl (hb hby at_216) ?_
          refine XS.goto X114.here hx rfl (pc0 := 217) (pc' := 221) rfl (hb hby at_217) (by decide) (by decide) ?_
          refine XS.istore X114.here hx rfl (hb hby at_221) rfl (l' := (LS_IJsJsJsIRRRIIRnn p0 q1 q2 q3 p4 b1 b4 b8 (1 : Int32) (1 : Int32) b8)) rfl ?_
          show Steps p.tables e below (T114.setTop (mkF m 223 (LS_IJsJsJsIRRRIIRnn p0 q1 q2 q3 p4 b1 b4 b8 (1 : Int32) (1 : Int32) b8) [])) _
          refine XS.iload X114.here hx rfl (hb hby at_223) rfl ?_
          refine XS.ifNo X114.here hx rfl (hb hby at_225) rfl ((if0 _ _).trans (feq (by decide : ¬ ((1 : Int32) = (0 : Int32)))).1) ?_
          refine XS.aload X114.here hx rfl (hb hby at_228) rfl rfl ?_
          exact k
        obtain ⟨cq115, kq115, q115a, q115b, q115c⟩ := isOf hZ16 e114 A4_v109
        obtain ⟨_, _, ⟨T115, L115, k115, n115⟩, -, X115, ⟨Lc115, hQ115, l115, y115, z115⟩, st115⟩ := X114.virtualBack hx (y := (⟨"com/example/weighted_scheduler/weightedscheduler/RequestBody", "isWhole", "()Z"⟩ : MethodName)) (z := (⟨"com/example/weighted_scheduler/weightedscheduler/RequestBody", "isWhole", "()Z"⟩ : MethodName)) ho16 (mvT hZ16 (hw _ (List.mem_of_getElem? (i := 110) rfl))) (mvT hZ16 (hw _ (List.mem_of_getElem? (i := 111) rfl))) (notFace_of_selects (args := #[]) (mvT hZ16 (hw _ (List.mem_of_getElem? (i := 113) rfl)))) (mvT hZ16 (hw _ (List.mem_of_getElem? (i := 113) rfl))) (mvT hZ16 (hw _ (List.mem_of_getElem? (i := 112) rfl))) (by decide) (backOf (W := 0) (rmiw0 l Z a0 hw [] b4 b8 T106.heap n0 Z0_v107 Fr106) hZ16 (hw _ (List.mem_of_getElem? (i := 114) rfl)) (hw _ (List.mem_of_getElem? (i := 13) rfl)) (by decide) (by decide)) q115a q115c (g := (mkF m 230 (LS_IJsJsJsIRRRIIRnn p0 q1 q2 q3 p4 b1 b4 b8 (1 : Int32) (1 : Int32) b8) [(.ref b4)])) rfl (by rw [hml]; rfl) (Steps.refl _) (argsL := []) (rest := []) (lenOf pd___Z rfl) rfl (by show 2 * 0 + _ ≤ _; exact Nat.le_of_eq rfl) (hb hby at_230) (fun _ _ => ⟨rfl, e114, (by decide : 9 + 0 ≤ _), (by decide : 2835 + 0 ≤ _)⟩)
        dsimp only [Pt.U, Pt.locs, Pt.cells, Pt.slots] at X115 l115 y115 z115 st115 hQ115
        subst l115 y115 z115
        obtain ⟨rfl, N115q, e115⟩ := hQ115
        have N115 := Fr.app N114 N115q
        refine own_go (B := T115.setTop (mkF m 233 (LS_IJsJsJsIRRRIIRnn p0 q1 q2 q3 p4 b1 b4 b8 (1 : Int32) (1 : Int32) b8) [(.int (0 : Int32))])) (fun t k => st115.trans k) ?_
        refine own_go (B := T115.setTop (mkF m 255 (LS_IJsJsJsIRRRIIRnn p0 q1 q2 q3 p4 b1 b4 b8 (1 : Int32) (1 : Int32) b8) [(.int (1 : Int32))])) (fun t k => ?_) ?_
        · refine XS.iload X115.here hx rfl (hb hby at_233) rfl ?_
          refine XS.ifYes X115.here hx rfl (pc0 := 235) (pc' := 242) rfl (hb hby at_235) rfl ((if0 _ _).trans (feq (by decide : ¬ ((1 : Int32) = (0 : Int32)))).2) (by decide) (by decide) ?_
          show Steps p.tables e below (T115.setTop (mkF m 242 (LS_IJsJsJsIRRRIIRnn p0 q1 q2 q3 p4 b1 b4 b8 (1 : Int32) (1 : Int32) b8) [(.int (0 : Int32))])) _
          refine XS.iconst X115.here hx rfl (hb hby at_242) ?_
          refine XS.icmpNo X115.here hx rfl (hb hby at_243) rfl (teq (by decide : (0 : Int32) = (0 : Int32))).2 ?_
          refine XS.iconst X115.here hx rfl (hb hby at_246) ?_
          show Steps p.tables e below (T115.setTop (mkF m 247 (LS_IJsJsJsIRRRIIRnn p0 q1 q2 q3 p4 b1 b4 b8 (1 : Int32) (1 : Int32) b8) [(.int (1 : Int32))])) _
          refine XS.goto X115.here hx rfl (pc0 := 247) (pc' := 251) rfl (hb hby at_247) (by decide) (by decide) ?_
          refine XS.istore X115.here hx rfl (hb hby at_251) rfl (l' := (LS_IJsJsJsIRRRIIRnn p0 q1 q2 q3 p4 b1 b4 b8 (1 : Int32) (1 : Int32) b8)) rfl ?_
          refine XS.iload X115.here hx rfl (hb hby at_253) rfl ?_
          exact k
        have hk16_v116 := Nat.le_trans hk16 K47.1
        have hk16_v117 := Nat.le_trans hk16_v116 K106.1
        obtain ⟨fs, hr, hrun, hended, hRW⟩ := Stand.leaveW (s := s) (vm₁ := T16.vm) X115 hS16 (by rw [e115]; exact hk16_v117) (v := some (.int (1 : Int32))) (fun h => by rw [Bd.returns] at h; cases h) (BodyLoose.notSynchronized Bd)
        refine ⟨_, _, ?_, hrun, hended, _, _, rfl, ?_, hRW.1, hRW.2.1, hRW.2.2.1, hRW.2.2.2.mono (by decide) (by decide)⟩
        · show Steps p.tables e below (T115.setTop (mkF m 255 (LS_IJsJsJsIRRRIIRnn p0 q1 q2 q3 p4 b1 b4 b8 (1 : Int32) (1 : Int32) b8) [(.int (1 : Int32))])) _
          exact retN X115 hx (t := .boolean) Bd.returns (by simp) (hb hby at_255) hr
        · show Q0 Z p0 q1 q2 q3 p4 wm uu sn h0 n0 _ T115.heap _
          rw [e115]
          exact ⟨rfl, N115⟩
      · refine own_go (B := T112.setTop (mkF m 203 (LS_IJsJsJsIRRRIIRnR p0 q1 q2 q3 p4 b1 b4 b8 (1 : Int32) (1 : Int32) b8 b8) [(.ref b8), (.ref b4)])) (fun t k => ?_) ?_
        · refine XS.ifNo X112.here hx rfl (hb hby at_188) rfl ((if0 _ _).trans (feq hc188_113).1) ?_
          refine XS.aload X112.here hx rfl (hb hby at_191) rfl rfl ?_
          show Steps p.tables e below (T112.setTop (mkF m 193 (LS_IJsJsJsIRRRIIRnu p0 q1 q2 q3 p4 b1 b4 b8 (1 : Int32) (1 : Int32) b8) [(.ref b8)])) _
          refine XS.goto X112.here hx rfl (pc0 := 193) (pc' := 197) rfl (hb hby at_193) (by decide) (by decide) ?_
          refine XS.astore X112.here hx rfl (hb hby at_197) rfl rfl (l' := (LS_IJsJsJsIRRRIIRnR p0 q1 q2 q3 p4 b1 b4 b8 (1 : Int32) (1 : Int32) b8 b8)) rfl ?_
          refine XS.aload X112.here hx rfl (hb hby at_199) rfl rfl ?_
          show Steps p.tables e below (T112.setTop (mkF m 201 (LS_IJsJsJsIRRRIIRnR p0 q1 q2 q3 p4 b1 b4 b8 (1 : Int32) (1 : Int32) b8 b8) [(.ref b4)])) _
          refine XS.aload X112.here hx rfl (hb hby at_201) rfl rfl ?_
          exact k
        obtain ⟨cq118, kq118, q118a, q118b, q118c⟩ := isOf hZ16 e112 A4_v109
        obtain ⟨_, _, ⟨T118, L118, k118, n118⟩, -, X118, ⟨Lc118, hQ118, l118, y118, z118⟩, st118⟩ := X112.virtualBack hx (y := (⟨"com/example/weighted_scheduler/weightedscheduler/RequestBody", "refuse", "(Lcom/example/weighted_scheduler/weightedscheduler/ApiError;)V"⟩ : MethodName)) (z := (⟨"com/example/weighted_scheduler/weightedscheduler/RequestBody", "refuse", "(Lcom/example/weighted_scheduler/weightedscheduler/ApiError;)V"⟩ : MethodName)) ho16 (mvT hZ16 (hw _ (List.mem_of_getElem? (i := 119) rfl))) (mvT hZ16 (hw _ (List.mem_of_getElem? (i := 120) rfl))) (notFace_of_selects (args := #[]) (mvT hZ16 (hw _ (List.mem_of_getElem? (i := 122) rfl)))) (mvT hZ16 (hw _ (List.mem_of_getElem? (i := 122) rfl))) (mvT hZ16 (hw _ (List.mem_of_getElem? (i := 121) rfl))) (by decide) (backOf (W := 0) (rmrf3 l Z a0 hw [] b4 b8 b8 T106.heap n0 Z0_v107 Fr106) hZ16 (hw _ (List.mem_of_getElem? (i := 123) rfl)) (hw _ (List.mem_of_getElem? (i := 13) rfl)) (by decide) (by decide)) q118a q118c (g := (mkF m 203 (LS_IJsJsJsIRRRIIRnR p0 q1 q2 q3 p4 b1 b4 b8 (1 : Int32) (1 : Int32) b8 b8) [(.ref b8), (.ref b4)])) rfl (by rw [hml]; rfl) (Steps.refl _) (argsL := [(.ref b8)]) (rest := []) (lenOf pd__Lcom_example_weighted_scheduler_weightedscheduler_ApiError__V rfl) rfl (by show 2 * 0 + _ ≤ _; exact Nat.le_of_eq rfl) (hb hby at_203) (fun _ _ => ⟨rfl, e112, (by decide : 9 + 0 ≤ _), (by decide : 2835 + 0 ≤ _)⟩)
        dsimp only [Pt.U, Pt.locs, Pt.cells, Pt.slots] at X118 l118 y118 z118 st118 hQ118
        subst l118 y118 z118
        obtain ⟨rfl, N118q, e118⟩ := hQ118
        have N118 := Fr.app N112 N118q
        refine own_go (B := T118.setTop (mkF m 206 (LS_IJsJsJsIRRRIIRnR p0 q1 q2 q3 p4 b1 b4 b8 (1 : Int32) (1 : Int32) b8 b8) [])) (fun t k => st118.trans k) ?_
        refine own_go (B := T118.setTop (mkF m 230 (LS_IJsJsJsIRRRIIRnR p0 q1 q2 q3 p4 b1 b4 b8 (1 : Int32) (1 : Int32) b8 b8) [(.ref b4)])) (fun t k => ?_) ?_
        · refine XS.iload X118.here hx rfl (hb hby at_206) rfl ?_
          refine XS.ifYes X118.here hx rfl (pc0 := 208) (pc' := 216) rfl (hb hby at_208) rfl ((if0 _ _).trans (feq (by decide : ¬ ((1 : Int32) = (0 : Int32)))).2) (by decide) (by decide) ?_
          show Steps p.tables e below (T118.setTop (mkF m 216 (LS_IJsJsJsIRRRIIRnR p0 q1 q2 q3 p4 b1 b4 b8 (1 : Int32) (1 : Int32) b8 b8) [])) _
          refine XS.iconst X118.here hx rfl (hb hby at_216) ?_
          refine XS.goto X118.here hx rfl (pc0 := 217) (pc' := 221) rfl (hb hby at_217) (by decide) (by decide) ?_
          refine XS.istore X118.here hx rfl (hb hby at_221) rfl (l' := (LS_IJsJsJsIRRRIIRnR p0 q1 q2 q3 p4 b1 b4 b8 (1 : Int32) (1 : Int32) b8 b8)) rfl ?_
          show Steps p.tables e below (T118.setTop (mkF m 223 (LS_IJsJsJsIRRRIIRnR p0 q1 q2 q3 p4 b1 b4 b8 (1 : Int32) (1 : Int32) b8 b8) [])) _
          refine XS.iload X118.here hx rfl (hb hby at_223) rfl ?_
          refine XS.ifNo X118.here hx rfl (hb hby at_225) rfl ((if0 _ _).trans (feq (by decide : ¬ ((1 : Int32) = (0 : Int32)))).1) ?_
          refine XS.aload X118.here hx rfl (hb hby at_228) rfl rfl ?_
          exact k
        obtain ⟨cq119, kq119, q119a, q119b, q119c⟩ := isOf hZ16 e118 A4_v109
        obtain ⟨_, _, ⟨T119, L119, k119, n119⟩, -, X119, ⟨Lc119, hQ119, l119, y119, z119⟩, st119⟩ := X118.virtualBack hx (y := (⟨"com/example/weighted_scheduler/weightedscheduler/RequestBody", "isWhole", "()Z"⟩ : MethodName)) (z := (⟨"com/example/weighted_scheduler/weightedscheduler/RequestBody", "isWhole", "()Z"⟩ : MethodName)) ho16 (mvT hZ16 (hw _ (List.mem_of_getElem? (i := 110) rfl))) (mvT hZ16 (hw _ (List.mem_of_getElem? (i := 111) rfl))) (notFace_of_selects (args := #[]) (mvT hZ16 (hw _ (List.mem_of_getElem? (i := 113) rfl)))) (mvT hZ16 (hw _ (List.mem_of_getElem? (i := 113) rfl))) (mvT hZ16 (hw _ (List.mem_of_getElem? (i := 112) rfl))) (by decide) (backOf (W := 0) (rmiw0 l Z a0 hw [] b4 b8 T106.heap n0 Z0_v107 Fr106) hZ16 (hw _ (List.mem_of_getElem? (i := 114) rfl)) (hw _ (List.mem_of_getElem? (i := 13) rfl)) (by decide) (by decide)) q119a q119c (g := (mkF m 230 (LS_IJsJsJsIRRRIIRnR p0 q1 q2 q3 p4 b1 b4 b8 (1 : Int32) (1 : Int32) b8 b8) [(.ref b4)])) rfl (by rw [hml]; rfl) (Steps.refl _) (argsL := []) (rest := []) (lenOf pd___Z rfl) rfl (by show 2 * 0 + _ ≤ _; exact Nat.le_of_eq rfl) (hb hby at_230) (fun _ _ => ⟨rfl, e118, (by decide : 9 + 0 ≤ _), (by decide : 2835 + 0 ≤ _)⟩)
        dsimp only [Pt.U, Pt.locs, Pt.cells, Pt.slots] at X119 l119 y119 z119 st119 hQ119
        subst l119 y119 z119
        obtain ⟨rfl, N119q, e119⟩ := hQ119
        have N119 := Fr.app N118 N119q
        refine own_go (B := T119.setTop (mkF m 233 (LS_IJsJsJsIRRRIIRnR p0 q1 q2 q3 p4 b1 b4 b8 (1 : Int32) (1 : Int32) b8 b8) [(.int (0 : Int32))])) (fun t k => st119.trans k) ?_
        refine own_go (B := T119.setTop (mkF m 255 (LS_IJsJsJsIRRRIIRnR p0 q1 q2 q3 p4 b1 b4 b8 (1 : Int32) (1 : Int32) b8 b8) [(.int (1 : Int32))])) (fun t k => ?_) ?_
        · refine XS.iload X119.here hx rfl (hb hby at_233) rfl ?_
          refine XS.ifYes X119.here hx rfl (pc0 := 235) (pc' := 242) rfl (hb hby at_235) rfl ((if0 _ _).trans (feq (by decide : ¬ ((1 : Int32) = (0 : Int32)))).2) (by decide) (by decide) ?_
          show Steps p.tables e below (T119.setTop (mkF m 242 (LS_IJsJsJsIRRRIIRnR p0 q1 q2 q3 p4 b1 b4 b8 (1 : Int32) (1 : Int32) b8 b8) [(.int (0 : Int32))])) _
          refine XS.iconst X119.here hx rfl (hb hby at_242) ?_
          refine XS.icmpNo X119.here hx rfl (hb hby at_243) rfl (teq (by decide : (0 : Int32) = (0 : Int32))).2 ?_
          refine XS.iconst X119.here hx rfl (hb hby at_246) ?_
          show Steps p.tables e below (T119.setTop (mkF m 247 (LS_IJsJsJsIRRRIIRnR p0 q1 q2 q3 p4 b1 b4 b8 (1 : Int32) (1 : Int32) b8 b8) [(.int (1 : Int32))])) _
          refine XS.goto X119.here hx rfl (pc0 := 247) (pc' := 251) rfl (hb hby at_247) (by decide) (by decide) ?_
          refine XS.istore X119.here hx rfl (hb hby at_251) rfl (l' := (LS_IJsJsJsIRRRIIRnR p0 q1 q2 q3 p4 b1 b4 b8 (1 : Int32) (1 : Int32) b8 b8)) rfl ?_
          refine XS.iload X119.here hx rfl (hb hby at_253) rfl ?_
          exact k
        have hk16_v120 := Nat.le_trans hk16 K47.1
        have hk16_v121 := Nat.le_trans hk16_v120 K106.1
        obtain ⟨fs, hr, hrun, hended, hRW⟩ := Stand.leaveW (s := s) (vm₁ := T16.vm) X119 hS16 (by rw [e119]; exact hk16_v121) (v := some (.int (1 : Int32))) (fun h => by rw [Bd.returns] at h; cases h) (BodyLoose.notSynchronized Bd)
        refine ⟨_, _, ?_, hrun, hended, _, _, rfl, ?_, hRW.1, hRW.2.1, hRW.2.2.1, hRW.2.2.2.mono (by decide) (by decide)⟩
        · show Steps p.tables e below (T119.setTop (mkF m 255 (LS_IJsJsJsIRRRIIRnR p0 q1 q2 q3 p4 b1 b4 b8 (1 : Int32) (1 : Int32) b8 b8) [(.int (1 : Int32))])) _
          exact retN X119 hx (t := .boolean) Bd.returns (by simp) (hb hby at_255) hr
        · show Q0 Z p0 q1 q2 q3 p4 wm uu sn h0 n0 _ T119.heap _
          rw [e119]
          exact ⟨rfl, N119⟩
    · refine own_go (B := T108.setTop (mkF m 135 (LS_IJsJsJsIRRRIIRRu p0 q1 q2 q3 p4 b1 b4 b8 (1 : Int32) (1 : Int32) b8 b8) [(.ref b8), (.ref b4)])) (fun t k => ?_) ?_
      · refine XS.ifNo X108.here hx rfl (hb hby at_120) rfl ((if0 _ _).trans (feq hc120_110).1) ?_
        refine XS.aload X108.here hx rfl (hb hby at_123) rfl rfl ?_
        show Steps p.tables e below (T108.setTop (mkF m 125 (LS_IJsJsJsIRRRIIRuu p0 q1 q2 q3 p4 b1 b4 b8 (1 : Int32) (1 : Int32) b8) [(.ref b8)])) _
        refine XS.goto X108.here hx rfl (pc0 := 125) (pc' := 129) rfl (hb hby at_125) (by decide) (by decide) ?_
        refine XS.astore X108.here hx rfl (hb hby at_129) rfl rfl (l' := (LS_IJsJsJsIRRRIIRRu p0 q1 q2 q3 p4 b1 b4 b8 (1 : Int32) (1 : Int32) b8 b8)) rfl ?_
        refine XS.aload X108.here hx rfl (hb hby at_131) rfl rfl ?_
        show Steps p.tables e below (T108.setTop (mkF m 133 (LS_IJsJsJsIRRRIIRRu p0 q1 q2 q3 p4 b1 b4 b8 (1 : Int32) (1 : Int32) b8 b8) [(.ref b4)])) _
        refine XS.aload X108.here hx rfl (hb hby at_133) rfl rfl ?_
        exact k
      obtain ⟨cq122, kq122, q122a, q122b, q122c⟩ := isOf hZ16 e108 A4_v109
      obtain ⟨_, _, ⟨T122, L122, k122, n122⟩, -, X122, ⟨Lc122, hQ122, l122, y122, z122⟩, st122⟩ := X108.virtualBack hx (y := (⟨"com/example/weighted_scheduler/weightedscheduler/RequestBody", "refuse", "(Lcom/example/weighted_scheduler/weightedscheduler/ApiError;)V"⟩ : MethodName)) (z := (⟨"com/example/weighted_scheduler/weightedscheduler/RequestBody", "refuse", "(Lcom/example/weighted_scheduler/weightedscheduler/ApiError;)V"⟩ : MethodName)) ho16 (mvT hZ16 (hw _ (List.mem_of_getElem? (i := 119) rfl))) (mvT hZ16 (hw _ (List.mem_of_getElem? (i := 120) rfl))) (notFace_of_selects (args := #[]) (mvT hZ16 (hw _ (List.mem_of_getElem? (i := 122) rfl)))) (mvT hZ16 (hw _ (List.mem_of_getElem? (i := 122) rfl))) (mvT hZ16 (hw _ (List.mem_of_getElem? (i := 121) rfl))) (by decide) (backOf (W := 0) (rmrf3 l Z a0 hw [] b4 b8 b8 T106.heap n0 Z0_v107 Fr106) hZ16 (hw _ (List.mem_of_getElem? (i := 123) rfl)) (hw _ (List.mem_of_getElem? (i := 13) rfl)) (by decide) (by decide)) q122a q122c (g := (mkF m 135 (LS_IJsJsJsIRRRIIRRu p0 q1 q2 q3 p4 b1 b4 b8 (1 : Int32) (1 : Int32) b8 b8) [(.ref b8), (.ref b4)])) rfl (by rw [hml]; rfl) (Steps.refl _) (argsL := [(.ref b8)]) (rest := []) (lenOf pd__Lcom_example_weighted_scheduler_weightedscheduler_ApiError__V rfl) rfl (by show 2 * 0 + _ ≤ _; exact Nat.le_of_eq rfl) (hb hby at_135) (fun _ _ => ⟨rfl, e108, (by decide : 9 + 0 ≤ _), (by decide : 2835 + 0 ≤ _)⟩)
      dsimp only [Pt.U, Pt.locs, Pt.cells, Pt.slots] at X122 l122 y122 z122 st122 hQ122
      subst l122 y122 z122
      obtain ⟨rfl, N122q, e122⟩ := hQ122
      have N122 := Fr.app N108 N122q
      refine own_go (B := T122.setTop (mkF m 138 (LS_IJsJsJsIRRRIIRRu p0 q1 q2 q3 p4 b1 b4 b8 (1 : Int32) (1 : Int32) b8 b8) [])) (fun t k => st122.trans k) ?_
      refine own_go (B := T122.setTop (mkF m 162 (LS_IJsJsJsIRRRIIRRu p0 q1 q2 q3 p4 b1 b4 b8 (1 : Int32) (1 : Int32) b8 b8) [(.ref b4)])) (fun t k => ?_) ?_
      · refine XS.iload X122.here hx rfl (hb hby at_138) rfl ?_
        refine XS.ifYes X122.here hx rfl (pc0 := 140) (pc' := 148) rfl (hb hby at_140) rfl ((if0 _ _).trans (feq (by decide : ¬ ((1 : Int32) = (0 : Int32)))).2) (by decide) (by decide) ?_
        show Steps p.tables e below (T122.setTop (mkF m 148 (LS_IJsJsJsIRRRIIRRu p0 q1 q2 q3 p4 b1 b4 b8 (1 : Int32) (1 : Int32) b8 b8) [])) _
        refine XS.iconst X122.here hx rfl (hb hby at_148) ?_
        refine XS.goto X122.here hx rfl (pc0 := 149) (pc' := 153) rfl (hb hby at_149) (by decide) (by decide) ?_
        refine XS.istore X122.here hx rfl (hb hby at_153) rfl (l' := (LS_IJsJsJsIRRRIIRRu p0 q1 q2 q3 p4 b1 b4 b8 (1 : Int32) (1 : Int32) b8 b8)) rfl ?_
        show Steps p.tables e below (T122.setTop (mkF m 155 (LS_IJsJsJsIRRRIIRRu p0 q1 q2 q3 p4 b1 b4 b8 (1 : Int32) (1 : Int32) b8 b8) [])) _
        refine XS.iload X122.here hx rfl (hb hby at_155) rfl ?_
        refine XS.ifNo X122.here hx rfl (hb hby at_157) rfl ((if0 _ _).trans (feq (by decide : ¬ ((1 : Int32) = (0 : Int32)))).1) ?_
        refine XS.aload X122.here hx rfl (hb hby at_160) rfl rfl ?_
        exact k
      obtain ⟨cq123, kq123, q123a, q123b, q123c⟩ := isOf hZ16 e122 A4_v109
      obtain ⟨_, _, ⟨T123, L123, k123, n123⟩, -, X123, ⟨Lc123, hQ123, l123, y123, z123⟩, st123⟩ := X122.virtualBack hx (y := (⟨"com/example/weighted_scheduler/weightedscheduler/RequestBody", "isWhole", "()Z"⟩ : MethodName)) (z := (⟨"com/example/weighted_scheduler/weightedscheduler/RequestBody", "isWhole", "()Z"⟩ : MethodName)) ho16 (mvT hZ16 (hw _ (List.mem_of_getElem? (i := 110) rfl))) (mvT hZ16 (hw _ (List.mem_of_getElem? (i := 111) rfl))) (notFace_of_selects (args := #[]) (mvT hZ16 (hw _ (List.mem_of_getElem? (i := 113) rfl)))) (mvT hZ16 (hw _ (List.mem_of_getElem? (i := 113) rfl))) (mvT hZ16 (hw _ (List.mem_of_getElem? (i := 112) rfl))) (by decide) (backOf (W := 0) (rmiw0 l Z a0 hw [] b4 b8 T106.heap n0 Z0_v107 Fr106) hZ16 (hw _ (List.mem_of_getElem? (i := 114) rfl)) (hw _ (List.mem_of_getElem? (i := 13) rfl)) (by decide) (by decide)) q123a q123c (g := (mkF m 162 (LS_IJsJsJsIRRRIIRRu p0 q1 q2 q3 p4 b1 b4 b8 (1 : Int32) (1 : Int32) b8 b8) [(.ref b4)])) rfl (by rw [hml]; rfl) (Steps.refl _) (argsL := []) (rest := []) (lenOf pd___Z rfl) rfl (by show 2 * 0 + _ ≤ _; exact Nat.le_of_eq rfl) (hb hby at_162) (fun _ _ => ⟨rfl, e122, (by decide : 9 + 0 ≤ _), (by decide : 2835 + 0 ≤ _)⟩)
      dsimp only [Pt.U, Pt.locs, Pt.cells, Pt.slots] at X123 l123 y123 z123 st123 hQ123
      subst l123 y123 z123
      obtain ⟨rfl, N123q, e123⟩ := hQ123
      have N123 := Fr.app N122 N123q
      refine own_go (B := T123.setTop (mkF m 165 (LS_IJsJsJsIRRRIIRRu p0 q1 q2 q3 p4 b1 b4 b8 (1 : Int32) (1 : Int32) b8 b8) [(.int (0 : Int32))])) (fun t k => st123.trans k) ?_
      refine own_go (B := T123.setTop (mkF m 188 (LS_IJsJsJsIRRRIIRRu p0 q1 q2 q3 p4 b1 b4 b8 (1 : Int32) (1 : Int32) b8 b8) [(.int (p0 &&& (4 : Int32)))])) (fun t k => ?_) ?_
      · refine XS.iload X123.here hx rfl (hb hby at_165) rfl ?_
        refine XS.ifYes X123.here hx rfl (pc0 := 167) (pc' := 174) rfl (hb hby at_167) rfl ((if0 _ _).trans (feq (by decide : ¬ ((1 : Int32) = (0 : Int32)))).2) (by decide) (by decide) ?_
        show Steps p.tables e below (T123.setTop (mkF m 174 (LS_IJsJsJsIRRRIIRRu p0 q1 q2 q3 p4 b1 b4 b8 (1 : Int32) (1 : Int32) b8 b8) [(.int (0 : Int32))])) _
        refine XS.iconst X123.here hx rfl (hb hby at_174) ?_
        refine XS.icmpNo X123.here hx rfl (hb hby at_175) rfl (teq (by decide : (0 : Int32) = (0 : Int32))).2 ?_
        refine XS.iconst X123.here hx rfl (hb hby at_178) ?_
        show Steps p.tables e below (T123.setTop (mkF m 179 (LS_IJsJsJsIRRRIIRRu p0 q1 q2 q3 p4 b1 b4 b8 (1 : Int32) (1 : Int32) b8 b8) [(.int (1 : Int32))])) _
        refine XS.goto X123.here hx rfl (pc0 := 179) (pc' := 183) rfl (hb hby at_179) (by decide) (by decide) ?_
        refine XS.istore X123.here hx rfl (hb hby at_183) rfl (l' := (LS_IJsJsJsIRRRIIRRu p0 q1 q2 q3 p4 b1 b4 b8 (1 : Int32) (1 : Int32) b8 b8)) rfl ?_
        refine XS.iloadN X123.here hx rfl (hb hby at_185) rfl ?_
        show Steps p.tables e below (T123.setTop (mkF m 186 (LS_IJsJsJsIRRRIIRRu p0 q1 q2 q3 p4 b1 b4 b8 (1 : Int32) (1 : Int32) b8 b8) [(.int p0)])) _
        refine XS.iconst X123.here hx rfl (hb hby at_186) ?_
        refine XS.iand X123.here hx rfl (hb hby at_187) rfl ?_
        exact k
      by_cases hc188_124 : (p0 &&& (4 : Int32)) = (0 : Int32)
      · refine own_go (B := T123.setTop (mkF m 203 (LS_IJsJsJsIRRRIIRRn p0 q1 q2 q3 p4 b1 b4 b8 (1 : Int32) (1 : Int32) b8 b8) [.null, (.ref b4)])) (fun t k => ?_) ?_
        · refine XS.ifYes X123.here hx rfl (pc0 := 188) (pc' := 196) rfl (hb hby at_188) rfl ((if0 _ _).trans (teq hc188_124).1) (by decide) (by decide) ?_
          refine XS.aconstNull X123.here hx rfl (hb hby at_196) ?_
          show Steps p.tables e below (T123.setTop (mkF m 197 (LS_IJsJsJsIRRRIIRRu p0 q1 q2 q3 p4 b1 b4 b8 (1 : Int32) (1 : Int32) b8 b8) [.null])) _
          refine XS.astore X123.here hx rfl (hb hby at_197) rfl rfl (l' := (LS_IJsJsJsIRRRIIRRn p0 q1 q2 q3 p4 b1 b4 b8 (1 : Int32) (1 : Int32) b8 b8)) rfl ?_
          refine XS.aload X123.here hx rfl (hb hby at_199) rfl rfl ?_
          refine XS.aload X123.here hx rfl (hb hby at_201) rfl rfl ?_
          exact k
        obtain ⟨cq125, kq125, q125a, q125b, q125c⟩ := isOf hZ16 e123 A4_v109
        obtain ⟨_, _, ⟨T125, L125, k125, n125⟩, -, X125, ⟨Lc125, hQ125, l125, y125, z125⟩, st125⟩ := X123.virtualBack hx (y := (⟨"com/example/weighted_scheduler/weightedscheduler/RequestBody", "refuse", "(Lcom/example/weighted_scheduler/weightedscheduler/ApiError;)V"⟩ : MethodName)) (z := (⟨"com/example/weighted_scheduler/weightedscheduler/RequestBody", "refuse", "(Lcom/example/weighted_scheduler/weightedscheduler/ApiError;)V"⟩ : MethodName)) ho16 (mvT hZ16 (hw _ (List.mem_of_getElem? (i := 119) rfl))) (mvT hZ16 (hw _ (List.mem_of_getElem? (i := 120) rfl))) (notFace_of_selects (args := #[]) (mvT hZ16 (hw _ (List.mem_of_getElem? (i := 122) rfl)))) (mvT hZ16 (hw _ (List.mem_of_getElem? (i := 122) rfl))) (mvT hZ16 (hw _ (List.mem_of_getElem? (i := 121) rfl))) (by decide) (backOf (W := 0) (rmrf2 l Z a0 hw [] b4 b8 T106.heap n0 Z0_v107 Fr106) hZ16 (hw _ (List.mem_of_getElem? (i := 123) rfl)) (hw _ (List.mem_of_getElem? (i := 13) rfl)) (by decide) (by decide)) q125a q125c (g := (mkF m 203 (LS_IJsJsJsIRRRIIRRn p0 q1 q2 q3 p4 b1 b4 b8 (1 : Int32) (1 : Int32) b8 b8) [.null, (.ref b4)])) rfl (by rw [hml]; rfl) (Steps.refl _) (argsL := [.null]) (rest := []) (lenOf pd__Lcom_example_weighted_scheduler_weightedscheduler_ApiError__V rfl) rfl (by show 2 * 0 + _ ≤ _; exact Nat.le_of_eq rfl) (hb hby at_203) (fun _ _ => ⟨rfl, e123, (by decide : 9 + 0 ≤ _), (by decide : 2835 + 0 ≤ _)⟩)
        dsimp only [Pt.U, Pt.locs, Pt.cells, Pt.slots] at X125 l125 y125 z125 st125 hQ125
        subst l125 y125 z125
        obtain ⟨rfl, N125q, e125⟩ := hQ125
        have N125 := Fr.app N123 N125q
        refine own_go (B := T125.setTop (mkF m 206 (LS_IJsJsJsIRRRIIRRn p0 q1 q2 q3 p4 b1 b4 b8 (1 : Int32) (1 : Int32) b8 b8) [])) (fun t k => st125.trans k) ?_
        refine own_go (B := T125.setTop (mkF m 230 (LS_IJsJsJsIRRRIIRRn p0 q1 q2 q3 p4 b1 b4 b8 (1 : Int32) (1 : Int32) b8 b8) [(.ref b4)])) (fun t k => ?_) ?_
        · refine XS.iload X125.here hx rfl (hb hby at_206) rfl ?_
          refine XS.ifYes X125.here hx rfl (pc0 := 208) (pc' := 216) rfl (hb hby at_208) rfl ((if0 _ _).trans (feq (by decide : ¬ ((1 : Int32) = (0 : Int32)))).2) (by decide) (by decide) ?_
          show Steps p.tables e below (T125.setTop (mkF m 216 (LS_IJsJsJsIRRRIIRRn p0 q1 q2 q3 p4 b1 b4 b8 (1 : Int32) (1 : Int32) b8 b8) [])) _
          refine XS.iconst X125.here hx rfl (hb hby at_216) ?_
          refine XS.goto X125.here hx rfl (pc0 := 217) (pc' := 221) rfl (hb hby at_217) (by decide) (by decide) ?_
          refine XS.istore X125.here hx rfl (hb hby at_221) rfl (l' := (LS_IJsJsJsIRRRIIRRn p0 q1 q2 q3 p4 b1 b4 b8 (1 : Int32) (1 : Int32) b8 b8)) rfl ?_
          show Steps p.tables e below (T125.setTop (mkF m 223 (LS_IJsJsJsIRRRIIRRn p0 q1 q2 q3 p4 b1 b4 b8 (1 : Int32) (1 : Int32) b8 b8) [])) _
          refine XS.iload X125.here hx rfl (hb hby at_223) rfl ?_
          refine XS.ifNo X125.here hx rfl (hb hby at_225) rfl ((if0 _ _).trans (feq (by decide : ¬ ((1 : Int32) = (0 : Int32)))).1) ?_
          refine XS.aload X125.here hx rfl (hb hby at_228) rfl rfl ?_
          exact k
        obtain ⟨cq126, kq126, q126a, q126b, q126c⟩ := isOf hZ16 e125 A4_v109
        obtain ⟨_, _, ⟨T126, L126, k126, n126⟩, -, X126, ⟨Lc126, hQ126, l126, y126, z126⟩, st126⟩ := X125.virtualBack hx (y := (⟨"com/example/weighted_scheduler/weightedscheduler/RequestBody", "isWhole", "()Z"⟩ : MethodName)) (z := (⟨"com/example/weighted_scheduler/weightedscheduler/RequestBody", "isWhole", "()Z"⟩ : MethodName)) ho16 (mvT hZ16 (hw _ (List.mem_of_getElem? (i := 110) rfl))) (mvT hZ16 (hw _ (List.mem_of_getElem? (i := 111) rfl))) (notFace_of_selects (args := #[]) (mvT hZ16 (hw _ (List.mem_of_getElem? (i := 113) rfl)))) (mvT hZ16 (hw _ (List.mem_of_getElem? (i := 113) rfl))) (mvT hZ16 (hw _ (List.mem_of_getElem? (i := 112) rfl))) (by decide) (backOf (W := 0) (rmiw0 l Z a0 hw [] b4 b8 T106.heap n0 Z0_v107 Fr106) hZ16 (hw _ (List.mem_of_getElem? (i := 114) rfl)) (hw _ (List.mem_of_getElem? (i := 13) rfl)) (by decide) (by decide)) q126a q126c (g := (mkF m 230 (LS_IJsJsJsIRRRIIRRn p0 q1 q2 q3 p4 b1 b4 b8 (1 : Int32) (1 : Int32) b8 b8) [(.ref b4)])) rfl (by rw [hml]; rfl) (Steps.refl _) (argsL := []) (rest := []) (lenOf pd___Z rfl) rfl (by show 2 * 0 + _ ≤ _; exact Nat.le_of_eq rfl) (hb hby at_230) (fun _ _ => ⟨rfl, e125, (by decide : 9 + 0 ≤ _), (by decide : 2835 + 0 ≤ _)⟩)
        dsimp only [Pt.U, Pt.locs, Pt.cells, Pt.slots] at X126 l126 y126 z126 st126 hQ126
        subst l126 y126 z126
        obtain ⟨rfl, N126q, e126⟩ := hQ126
        have N126 := Fr.app N125 N126q
        refine own_go (B := T126.setTop (mkF m 233 (LS_IJsJsJsIRRRIIRRn p0 q1 q2 q3 p4 b1 b4 b8 (1 : Int32) (1 : Int32) b8 b8) [(.int (0 : Int32))])) (fun t k => st126.trans k) ?_
        refine own_go (B := T126.setTop (mkF m 255 (LS_IJsJsJsIRRRIIRRn p0 q1 q2 q3 p4 b1 b4 b8 (1 : Int32) (1 : Int32) b8 b8) [(.int (1 : Int32))])) (fun t k => ?_) ?_
        · refine XS.iload X126.here hx rfl (hb hby at_233) rfl ?_
          refine XS.ifYes X126.here hx rfl (pc0 := 235) (pc' := 242) rfl (hb hby at_235) rfl ((if0 _ _).trans (feq (by decide : ¬ ((1 : Int32) = (0 : Int32)))).2) (by decide) (by decide) ?_
          show Steps p.tables e below (T126.setTop (mkF m 242 (LS_IJsJsJsIRRRIIRRn p0 q1 q2 q3 p4 b1 b4 b8 (1 : Int32) (1 : Int32) b8 b8) [(.int (0 : Int32))])) _
          refine XS.iconst X126.here hx rfl (hb hby at_242) ?_
          refine XS.icmpNo X126.here hx rfl (hb hby at_243) rfl (teq (by decide : (0 : Int32) = (0 : Int32))).2 ?_
          refine XS.iconst X126.here hx rfl (hb hby at_246) ?_
          show Steps p.tables e below (T126.setTop (mkF m 247 (LS_IJsJsJsIRRRIIRRn p0 q1 q2 q3 p4 b1 b4 b8 (1 : Int32) (1 : Int32) b8 b8) [(.int (1 : Int32))])) _
          refine XS.goto X126.here hx rfl (pc0 := 247) (pc' := 251) rfl (hb hby at_247) (by decide) (by decide) ?_
          refine XS.istore X126.here hx rfl (hb hby at_251) rfl (l' := (LS_IJsJsJsIRRRIIRRn p0 q1 q2 q3 p4 b1 b4 b8 (1 : Int32) (1 : Int32) b8 b8)) rfl ?_
          refine XS.iload X126.here hx rfl (hb hby at_253) rfl ?_
          exact k
        have hk16_v127 := Nat.le_trans hk16 K47.1
        have hk16_v128 := Nat.le_trans hk16_v127 K106.1
        obtain ⟨fs, hr, hrun, hended, hRW⟩ := Stand.leaveW (s := s) (vm₁ := T16.vm) X126 hS16 (by rw [e126]; exact hk16_v128) (v := some (.int (1 : Int32))) (fun h => by rw [Bd.returns] at h; cases h) (BodyLoose.notSynchronized Bd)
        refine ⟨_, _, ?_, hrun, hended, _, _, rfl, ?_, hRW.1, hRW.2.1, hRW.2.2.1, hRW.2.2.2.mono (by decide) (by decide)⟩
        · show Steps p.tables e below (T126.setTop (mkF m 255 (LS_IJsJsJsIRRRIIRRn p0 q1 q2 q3 p4 b1 b4 b8 (1 : Int32) (1 : Int32) b8 b8) [(.int (1 : Int32))])) _
          exact retN X126 hx (t := .boolean) Bd.returns (by simp) (hb hby at_255) hr
        · show Q0 Z p0 q1 q2 q3 p4 wm uu sn h0 n0 _ T126.heap _
          rw [e126]
          exact ⟨rfl, N126⟩
      · refine own_go (B := T123.setTop (mkF m 203 (LS_IJsJsJsIRRRIIRRR p0 q1 q2 q3 p4 b1 b4 b8 (1 : Int32) (1 : Int32) b8 b8 b8) [(.ref b8), (.ref b4)])) (fun t k => ?_) ?_
        · refine XS.ifNo X123.here hx rfl (hb hby at_188) rfl ((if0 _ _).trans (feq hc188_124).1) ?_
          refine XS.aload X123.here hx rfl (hb hby at_191) rfl rfl ?_
          show Steps p.tables e below (T123.setTop (mkF m 193 (LS_IJsJsJsIRRRIIRRu p0 q1 q2 q3 p4 b1 b4 b8 (1 : Int32) (1 : Int32) b8 b8) [(.ref b8)])) _
          refine XS.goto X123.here hx rfl (pc0 := 193) (pc' := 197) rfl (hb hby at_193) (by decide) (by decide) ?_
          refine XS.astore X123.here hx rfl (hb hby at_197) rfl rfl (l' := (LS_IJsJsJsIRRRIIRRR p0 q1 q2 q3 p4 b1 b4 b8 (1 : Int32) (1 : Int32) b8 b8 b8)) rfl ?_
          refine XS.aload X123.here hx rfl (hb hby at_199) rfl rfl ?_
          show Steps p.tables e below (T123.setTop (mkF m 201 (LS_IJsJsJsIRRRIIRRR p0 q1 q2 q3 p4 b1 b4 b8 (1 : Int32) (1 : Int32) b8 b8 b8) [(.ref b4)])) _
          refine XS.aload X123.here hx rfl (hb hby at_201) rfl rfl ?_
          exact k
        obtain ⟨cq129, kq129, q129a, q129b, q129c⟩ := isOf hZ16 e123 A4_v109
        obtain ⟨_, _, ⟨T129, L129, k129, n129⟩, -, X129, ⟨Lc129, hQ129, l129, y129, z129⟩, st129⟩ := X123.virtualBack hx (y := (⟨"com/example/weighted_scheduler/weightedscheduler/RequestBody", "refuse", "(Lcom/example/weighted_scheduler/weightedscheduler/ApiError;)V"⟩ : MethodName)) (z := (⟨"com/example/weighted_scheduler/weightedscheduler/RequestBody", "refuse", "(Lcom/example/weighted_scheduler/weightedscheduler/ApiError;)V"⟩ : MethodName)) ho16 (mvT hZ16 (hw _ (List.mem_of_getElem? (i := 119) rfl))) (mvT hZ16 (hw _ (List.mem_of_getElem? (i := 120) rfl))) (notFace_of_selects (args := #[]) (mvT hZ16 (hw _ (List.mem_of_getElem? (i := 122) rfl)))) (mvT hZ16 (hw _ (List.mem_of_getElem? (i := 122) rfl))) (mvT hZ16 (hw _ (List.mem_of_getElem? (i := 121) rfl))) (by decide) (backOf (W := 0) (rmrf3 l Z a0 hw [] b4 b8 b8 T106.heap n0 Z0_v107 Fr106) hZ16 (hw _ (List.mem_of_getElem? (i := 123) rfl)) (hw _ (List.mem_of_getElem? (i := 13) rfl)) (by decide) (by decide)) q129a q129c (g := (mkF m 203 (LS_IJsJsJsIRRRIIRRR p0 q1 q2 q3 p4 b1 b4 b8 (1 : Int32) (1 : Int32) b8 b8 b8) [(.ref b8), (.ref b4)])) rfl (by rw [hml]; rfl) (Steps.refl _) (argsL := [(.ref b8)]) (rest := []) (lenOf pd__Lcom_example_weighted_scheduler_weightedscheduler_ApiError__V rfl) rfl (by show 2 * 0 + _ ≤ _; exact Nat.le_of_eq rfl) (hb hby at_203) (fun _ _ => ⟨rfl, e123, (by decide : 9 + 0 ≤ _), (by decide : 2835 + 0 ≤ _)⟩)
        dsimp only [Pt.U, Pt.locs, Pt.cells, Pt.slots] at X129 l129 y129 z129 st129 hQ129
        subst l129 y129 z129
        obtain ⟨rfl, N129q, e129⟩ := hQ129
        have N129 := Fr.app N123 N129q
        refine own_go (B := T129.setTop (mkF m 206 (LS_IJsJsJsIRRRIIRRR p0 q1 q2 q3 p4 b1 b4 b8 (1 : Int32) (1 : Int32) b8 b8 b8) [])) (fun t k => st129.trans k) ?_
        refine own_go (B := T129.setTop (mkF m 230 (LS_IJsJsJsIRRRIIRRR p0 q1 q2 q3 p4 b1 b4 b8 (1 : Int32) (1 : Int32) b8 b8 b8) [(.ref b4)])) (fun t k => ?_) ?_
        · refine XS.iload X129.here hx rfl (hb hby at_206) rfl ?_
          refine XS.ifYes X129.here hx rfl (pc0 := 208) (pc' := 216) rfl (hb hby at_208) rfl ((if0 _ _).trans (feq (by decide : ¬ ((1 : Int32) = (0 : Int32)))).2) (by decide) (by decide) ?_
          show Steps p.tables e below (T129.setTop (mkF m 216 (LS_IJsJsJsIRRRIIRRR p0 q1 q2 q3 p4 b1 b4 b8 (1 : Int32) (1 : Int32) b8 b8 b8) [])) _
          refine XS.iconst X129.here hx rfl (hb hby at_216) ?_
          refine XS.goto X129.here hx rfl (pc0 := 217) (pc' := 221) rfl (hb hby at_217) (by decide) (by decide) ?_
          refine XS.istore X129.here hx rfl (hb hby at_221) rfl (l' := (LS_IJsJsJsIRRRIIRRR p0 q1 q2 q3 p4 b1 b4 b8 (1 : Int32) (1 : Int32) b8 b8 b8)) rfl ?_
          show Steps p.tables e below (T129.setTop (mkF m 223 (LS_IJsJsJsIRRRIIRRR p0 q1 q2 q3 p4 b1 b4 b8 (1 : Int32) (1 : Int32) b8 b8 b8) [])) _
          refine XS.iload X129.here hx rfl (hb hby at_223) rfl ?_
          refine XS.ifNo X129.here hx rfl (hb hby at_225) rfl ((if0 _ _).trans (feq (by decide : ¬ ((1 : Int32) = (0 : Int32)))).1) ?_
          refine XS.aload X129.here hx rfl (hb hby at_228) rfl rfl ?_
          exact k
        obtain ⟨cq130, kq130, q130a, q130b, q130c⟩ := isOf hZ16 e129 A4_v109
        obtain ⟨_, _, ⟨T130, L130, k130, n130⟩, -, X130, ⟨Lc130, hQ130, l130, y130, z130⟩, st130⟩ := X129.virtualBack hx (y := (⟨"com/example/weighted_scheduler/weightedscheduler/RequestBody", "isWhole", "()Z"⟩ : MethodName)) (z := (⟨"com/example/weighted_scheduler/weightedscheduler/RequestBody", "isWhole", "()Z"⟩ : MethodName)) ho16 (mvT hZ16 (hw _ (List.mem_of_getElem? (i := 110) rfl))) (mvT hZ16 (hw _ (List.mem_of_getElem? (i := 111) rfl))) (notFace_of_selects (args := #[]) (mvT hZ16 (hw _ (List.mem_of_getElem? (i := 113) rfl)))) (mvT hZ16 (hw _ (List.mem_of_getElem? (i := 113) rfl))) (mvT hZ16 (hw _ (List.mem_of_getElem? (i := 112) rfl))) (by decide) (backOf (W := 0) (rmiw0 l Z a0 hw [] b4 b8 T106.heap n0 Z0_v107 Fr106) hZ16 (hw _ (List.mem_of_getElem? (i := 114) rfl)) (hw _ (List.mem_of_getElem? (i := 13) rfl)) (by decide) (by decide)) q130a q130c (g := (mkF m 230 (LS_IJsJsJsIRRRIIRRR p0 q1 q2 q3 p4 b1 b4 b8 (1 : Int32) (1 : Int32) b8 b8 b8) [(.ref b4)])) rfl (by rw [hml]; rfl) (Steps.refl _) (argsL := []) (rest := []) (lenOf pd___Z rfl) rfl (by show 2 * 0 + _ ≤ _; exact Nat.le_of_eq rfl) (hb hby at_230) (fun _ _ => ⟨rfl, e129, (by decide : 9 + 0 ≤ _), (by decide : 2835 + 0 ≤ _)⟩)
        dsimp only [Pt.U, Pt.locs, Pt.cells, Pt.slots] at X130 l130 y130 z130 st130 hQ130
        subst l130 y130 z130
        obtain ⟨rfl, N130q, e130⟩ := hQ130
        have N130 := Fr.app N129 N130q
        refine own_go (B := T130.setTop (mkF m 233 (LS_IJsJsJsIRRRIIRRR p0 q1 q2 q3 p4 b1 b4 b8 (1 : Int32) (1 : Int32) b8 b8 b8) [(.int (0 : Int32))])) (fun t k => st130.trans k) ?_
        refine own_go (B := T130.setTop (mkF m 255 (LS_IJsJsJsIRRRIIRRR p0 q1 q2 q3 p4 b1 b4 b8 (1 : Int32) (1 : Int32) b8 b8 b8) [(.int (1 : Int32))])) (fun t k => ?_) ?_
        · refine XS.iload X130.here hx rfl (hb hby at_233) rfl ?_
          refine XS.ifYes X130.here hx rfl (pc0 := 235) (pc' := 242) rfl (hb hby at_235) rfl ((if0 _ _).trans (feq (by decide : ¬ ((1 : Int32) = (0 : Int32)))).2) (by decide) (by decide) ?_
          show Steps p.tables e below (T130.setTop (mkF m 242 (LS_IJsJsJsIRRRIIRRR p0 q1 q2 q3 p4 b1 b4 b8 (1 : Int32) (1 : Int32) b8 b8 b8) [(.int (0 : Int32))])) _
          refine XS.iconst X130.here hx rfl (hb hby at_242) ?_
          refine XS.icmpNo X130.here hx rfl (hb hby at_243) rfl (teq (by decide : (0 : Int32) = (0 : Int32))).2 ?_
          refine XS.iconst X130.here hx rfl (hb hby at_246) ?_
          show Steps p.tables e below (T130.setTop (mkF m 247 (LS_IJsJsJsIRRRIIRRR p0 q1 q2 q3 p4 b1 b4 b8 (1 : Int32) (1 : Int32) b8 b8 b8) [(.int (1 : Int32))])) _
          refine XS.goto X130.here hx rfl (pc0 := 247) (pc' := 251) rfl (hb hby at_247) (by decide) (by decide) ?_
          refine XS.istore X130.here hx rfl (hb hby at_251) rfl (l' := (LS_IJsJsJsIRRRIIRRR p0 q1 q2 q3 p4 b1 b4 b8 (1 : Int32) (1 : Int32) b8 b8 b8)) rfl ?_
          refine XS.iload X130.here hx rfl (hb hby at_253) rfl ?_
          exact k
        have hk16_v131 := Nat.le_trans hk16 K47.1
        have hk16_v132 := Nat.le_trans hk16_v131 K106.1
        obtain ⟨fs, hr, hrun, hended, hRW⟩ := Stand.leaveW (s := s) (vm₁ := T16.vm) X130 hS16 (by rw [e130]; exact hk16_v132) (v := some (.int (1 : Int32))) (fun h => by rw [Bd.returns] at h; cases h) (BodyLoose.notSynchronized Bd)
        refine ⟨_, _, ?_, hrun, hended, _, _, rfl, ?_, hRW.1, hRW.2.1, hRW.2.2.1, hRW.2.2.2.mono (by decide) (by decide)⟩
        · show Steps p.tables e below (T130.setTop (mkF m 255 (LS_IJsJsJsIRRRIIRRR p0 q1 q2 q3 p4 b1 b4 b8 (1 : Int32) (1 : Int32) b8 b8 b8) [(.int (1 : Int32))])) _
          exact retN X130 hx (t := .boolean) Bd.returns (by simp) (hb hby at_255) hr
        · show Q0 Z p0 q1 q2 q3 p4 wm uu sn h0 n0 _ T130.heap _
          rw [e130]
          exact ⟨rfl, N130⟩
set_option maxRecDepth 65536 in
set_option maxHeartbeats 40000000 in
theorem comes_1 {Post : Tables → Env → Array Value → State → Outcome → State → Prop} (hpost : ∀ tb e args s v u, (limb_1_1.after args s (.returned v) u = true ∧ limb_1_2.after args s (.returned v) u = true ∧ True) → FramedW s (.returned v) u (Jvm.fieldLocs frame_1_writes args s ++ Jvm.arrayLocs frame_1_arrays args s ++ Jvm.staticLocs frame_1_statics s) 24 6656 → Post tb e args s (.returned v) u) :
    ArmFor flags0 classFile x code maxLocals ret World_1 tables_1 room_1 Calls_1 rest_1 Pre_1 Post := by
  intro l hfl _ _ p e ha hc hk s m args below hf hA hF happ hP
  obtain ⟨hcalls, hrest, hpre⟩ := hP
  obtain ⟨-, -, -, hnamed, -, -, -, hat⟩ := (Spec.applies_iff hf).mp happ
  obtain ⟨hg, hn⟩ := and_e (Cond.before_iff.mp (show (Jvm.Cond.and given_1 narrow_1).before args s = true from hpre))
  obtain ⟨g1, g2⟩ := and_e hg
  obtain ⟨g3, g4⟩ := and_e g2
  obtain ⟨g5, g6⟩ := and_e g4
  obtain ⟨g7, g8⟩ := and_e g6
  obtain ⟨g9, g10⟩ := and_e g8
  obtain ⟨w0, w1, w2, w3, w4, rfl⟩ : ∃ w0 w1 w2 w3 w4 : Value, args = #[w0, w1, w2, w3, w4] := by
    have hs : args.size = 5 := by simpa [Cond.value, given_1] using g1
    obtain ⟨L⟩ := args
    match L, hs with
    | [w0, w1, w2, w3, w4], _ => exact ⟨w0, w1, w2, w3, w4, rfl⟩
  have hw := fun d (hd : d ∈ tables_1) => atoms_spec (ws := Jvm.Cond.code x code maxLocals ret :: tables_1) hat d (List.mem_cons_of_mem _ hd)
  have hfit : Fit s := fun {y c} hc i hi => by
    obtain ⟨ha, rfl⟩ := Array.getElem?_eq_some_iff.mp hc
    have q := List.all_eq_true.mp ((Array.all_eq_true_iff_forall_mem.mp hF) _ (Array.getElem_mem ha)) i (List.mem_range.mpr hi)
    simpa [Array.getElem?_eq_getElem hi] using q
  obtain ⟨hsets, hown0⟩ := atoms_of _ (rest_1_c_eq ▸ (show rest_1_c.before _ s = true from hrest))
  have hr0 := Cond.before_iff.mp hown0
  obtain ⟨i0, ei0⟩ := is_v g3
  obtain rfl : w0 = (.int i0) := Option.some.inj ei0
  obtain ⟨i1, ei1⟩ := isL_v g5
  obtain rfl : w1 = (.long i1) := Option.some.inj ei1
  obtain ⟨i2, ei2⟩ := isL_v g7
  obtain rfl : w2 = (.long i2) := Option.some.inj ei2
  obtain ⟨i3, ei3⟩ := isL_v g9
  obtain rfl : w3 = (.long i3) := Option.some.inj ei3
  obtain ⟨i4, ei4⟩ := is_v g10
  obtain rfl : w4 = (.int i4) := Option.some.inj ei4
  obtain ⟨w_ImmutableCollections_EMPTY_MAP, ev_ImmutableCollections_EMPTY_MAP⟩ := exa_v (Cond.before_iff.mp (hsets _ (List.mem_of_getElem? (i := 2) rfl)))
  have S_ImmutableCollections_EMPTY_MAP : Sta s s.heap "java/util/ImmutableCollections" "EMPTY_MAP" "Ljava/util/ImmutableCollections$MapN;" (.ref w_ImmutableCollections_EMPTY_MAP) := Sta.start ev_ImmutableCollections_EMPTY_MAP (Or.inl (hsets _ (List.mem_of_getElem? (i := 1) rfl)))
  have E_ImmutableCollections_EMPTY_MAP : Exa s s.heap w_ImmutableCollections_EMPTY_MAP "java/util/ImmutableCollections$MapN" := Exa.start ev_ImmutableCollections_EMPTY_MAP (Cond.before_iff.mp (hsets _ (List.mem_of_getElem? (i := 2) rfl)))
  have F_ImmutableCollections_EMPTY_MAP_size : Fld s s.heap w_ImmutableCollections_EMPTY_MAP "java/util/ImmutableCollections$MapN" "size" "I" (.int (0 : Int32)) := Fld.start ((fld_at ev_ImmutableCollections_EMPTY_MAP).symm.trans (own_eqI (Cond.before_iff.mp (hsets _ (List.mem_of_getElem? (i := 6) rfl)))))
  obtain ⟨w_Throwable_SUPPRESSED_SENTINEL, ev_Throwable_SUPPRESSED_SENTINEL⟩ := exa_v (Cond.before_iff.mp (hsets _ (List.mem_of_getElem? (i := 20) rfl)))
  have S_Throwable_SUPPRESSED_SENTINEL : Sta s s.heap "java/lang/Throwable" "SUPPRESSED_SENTINEL" "Ljava/util/List;" (.ref w_Throwable_SUPPRESSED_SENTINEL) := Sta.start ev_Throwable_SUPPRESSED_SENTINEL (Or.inl (hsets _ (List.mem_of_getElem? (i := 18) rfl)))
  have E_Throwable_SUPPRESSED_SENTINEL : Exa s s.heap w_Throwable_SUPPRESSED_SENTINEL "java/util/Collections$EmptyList" := Exa.start ev_Throwable_SUPPRESSED_SENTINEL (Cond.before_iff.mp (hsets _ (List.mem_of_getElem? (i := 20) rfl)))
  obtain ⟨w_UN, ev_UN⟩ := arr_v (Cond.before_iff.mp (hsets _ (List.mem_of_getElem? (i := 15) rfl)))
  have S_UN : Sta s s.heap "java/lang/Throwable" "UNASSIGNED_STACK" "[Ljava/lang/StackTraceElement;" (.ref w_UN) := Sta.start ev_UN (Or.inl (hsets _ (List.mem_of_getElem? (i := 13) rfl)))
  obtain ⟨n, o, h1, h2, h3, _, L, rfl, ⟨rfl, N⟩, hq⟩ := rm0 l s _ hw tables_1 i0 i1 i2 i3 i4 w_ImmutableCollections_EMPTY_MAP w_UN w_Throwable_SUPPRESSED_SENTINEL s.heap s.heap.size (Nat.le_refl _) S_ImmutableCollections_EMPTY_MAP S_UN S_Throwable_SUPPRESSED_SENTINEL hfl p e ha hc hk s m _ below hf ((Spec.applies_iff_loose hf).mp happ).1 ⟨rfl, State.Warmed39.refl s, rfl⟩ ⟨MethodsKnown_of_tablesKnown hcalls.2.1, FramesKnown_of_framesKnown hcalls.1 hf⟩
  refine ⟨n, _, h1, h2, h3, hpost _ _ _ _ _ _ ⟨Cond.after_iff.mpr rfl, Cond.after_iff.mpr (eq_i res_at (Term.int_eval (1)) rfl), trivial⟩ ⟨hq.1, hq.2.1, hq.2.2.1, (hq.2.2.2.sift fun y hy => Or.inr (N y hy)).mono (by decide) (by decide)⟩⟩
theorem main_1_1 : Claimed_1_1 := comes_1 fun _ _ _ _ _ _ h hF => ⟨h.1, hF⟩
theorem main_1_2 : Claimed_1_2 := comes_1 fun _ _ _ _ _ _ h hF => ⟨h.2.1, hF⟩
end Jvm.Pilot.@@N@@
namespace Jvm.Pilot.@@N@@
open Jvm Jvm.ClassFile Sem Op Lib Jvm.Free Jvm.Stand Jvm.Pilot.@@N@@.Jvm.D
/-! MADE BY PROGRAM (witnessworld.py) out of the Statement's table words and the real class files: 38 classes; the members and pool entries that the words name. The judged class is class 1, her method 1. -/
namespace start1
open Jvm.ClassFile
def u (s : String) : CpInfo := .utf8 (stringToUtf16 s)
/-- a pool by its gaps: so many unusable entries, then the entry; so many at the end -/
def gap : Nat → List CpInfo → List CpInfo
  | 0, r => r
  | n + 1, r => .unusable :: gap n r
def poolList (es : List (Nat × CpInfo)) (last : Nat) : List CpInfo := es.foldr (fun e r => gap e.1 (e.2 :: r)) (gap last [])
def pool (es : List (Nat × CpInfo)) (last : Nat) : Array CpInfo := ⟨poolList es last⟩
def fileOf (pool : Array CpInfo) (this : Nat) (attrs : Array Attribute := #[]) (ms : Array MethodInfo := #[]) (fl : Nat := 33) (sup : Nat := 0) (ifs : Array Nat := #[]) (fds : Array FieldInfo := #[]) : ClassFile where
  minorVersion := 0
  majorVersion := 65
  constantPool := pool
  accessFlags := fl
  thisClass := this
  superClass := sup
  interfaces := ifs
  fields := fds
  methods := ms
  attributes := attrs
def plain (name : String) (sup : Option ClassId) : Class where
  name := name
  kind := .ordinary
  loader := none
  accessFlags := 33
  super := sup
  interfaces := #[]
  cf := none
  fields := #[]
  methods := #[]
  instanceTypes := #[]
  staticTypes := #[]
  resolved := #[]
  callSites := []
  init := .initialized
  statics := none
  mirror := none

def pool0 : Array CpInfo := pool [(5, u "<init>"), (0, u "()V"), (1, .class_ 10), (1, u "java/lang/Object")] 113

def k0c0 : Code := { maxStack := 0, maxLocals := 1, code := object_method_1_code, exceptionTable := #[], attributes := #[] }
def k0m0 : Method := { name := "<init>", desc := "()V", sig := { parameters := [], returnType := none }, accessFlags := 1, code := some k0c0 }
/-- java/lang/Object -/
def k0 : Class := { plain "java/lang/Object" none with
  accessFlags := 33
  interfaces := #[]
  cf := some (fileOf pool0 8 #[] #[{ accessFlags := 1, nameIndex := 5, descriptorIndex := 6, attributes := #[] }] 33 0 #[] #[])
  fields := #[]
  methods := #[k0m0]
  instanceTypes := #[]
  staticTypes := #[]
  resolved := Array.replicate 124 none
  statics := none }

def pool1 : Array CpInfo := pool [(2, .class_ 4), (1, u "java/lang/Object"), (0, u "<init>"), (0, u "()V"), (0, .class_ 8), (0, u "com/example/weighted_scheduler/weightedscheduler/HeapShare"), (0, .methodref 7 10), (0, .nameAndType 5 11), (0, u "(J)V"), (0, .class_ 13), (0, u "com/example/weighted_scheduler/weightedscheduler/RequestBody"), (0, .methodref 12 15), (0, .nameAndType 5 16), (0, u "(JJLcom/example/weighted_scheduler/weightedscheduler/HeapShare;)V"), (0, .class_ 18), (0, u "com/example/weighted_scheduler/weightedscheduler/ApiError"), (0, .string 20), (0, u "refused"), (0, .methodref 17 22), (0, .nameAndType 5 23), (0, u "(ILjava/lang/String;Ljava/lang/String;)V"), (0, .methodref 12 25), (0, .nameAndType 26 27), (0, u "isWhole"), (0, u "()Z"), (0, .methodref 12 29), (0, .nameAndType 30 31), (0, u "refuse"), (0, u "(Lcom/example/weighted_scheduler/weightedscheduler/ApiError;)V"), (0, .class_ 33), (0, u "com/example/weighted_scheduler/weightedscheduler/RequestBodyRefusePinLaw"), (2, u "law"), (0, u "(IJJJI)Z")] 3

def k1m0 : Method := { name := "<init>", desc := "()V", sig := { parameters := [], returnType := none }, accessFlags := 2, code := none }
def k1c1 : Code := { maxStack := 7, maxLocals := 16, code := code, exceptionTable := #[], attributes := #[] }
def k1m1 : Method := { name := "law", desc := "(IJJJI)Z", sig := { parameters := [.int, .long, .long, .long, .int], returnType := some .boolean }, accessFlags := 9, code := some k1c1 }
/-- com/example/weighted_scheduler/weightedscheduler/RequestBodyRefusePinLaw -/
def k1 : Class := { plain "com/example/weighted_scheduler/weightedscheduler/RequestBodyRefusePinLaw" (some 0) with
  accessFlags := 49
  interfaces := #[]
  cf := some (fileOf pool1 32 #[] #[{ accessFlags := 2, nameIndex := 5, descriptorIndex := 6, attributes := #[] }, { accessFlags := 9, nameIndex := 36, descriptorIndex := 37, attributes := #[] }] 49 2 #[] #[])
  fields := #[]
  methods := #[k1m0, k1m1]
  instanceTypes := #[]
  staticTypes := #[]
  resolved := Array.replicate 41 none
  statics := none }

def pool2 : Array CpInfo := pool [(1, .methodref 2 3), (0, .class_ 4), (0, .nameAndType 5 6), (0, u "java/lang/Object"), (0, u "<init>"), (0, u "()V"), (0, .fieldref 8 9), (0, .class_ 10), (0, .nameAndType 11 12), (0, u "com/example/weighted_scheduler/weightedscheduler/HeapShare"), (0, u "capacity"), (0, u "J"), (2, u "taken"), (0, u "(J)V")] 10

def k2c0 : Code := { maxStack := 3, maxLocals := 3, code := prog_23_method_1_code, exceptionTable := #[], attributes := #[] }
def k2m0 : Method := { name := "<init>", desc := "(J)V", sig := { parameters := [.long], returnType := none }, accessFlags := 0, code := some k2c0 }
/-- com/example/weighted_scheduler/weightedscheduler/HeapShare -/
def k2 : Class := { plain "com/example/weighted_scheduler/weightedscheduler/HeapShare" (some 0) with
  accessFlags := 48
  interfaces := #[]
  cf := some (fileOf pool2 8 #[] #[{ accessFlags := 0, nameIndex := 5, descriptorIndex := 16, attributes := #[] }] 48 2 #[] #[{ accessFlags := 18, nameIndex := 11, descriptorIndex := 12, attributes := #[] }, { accessFlags := 2, nameIndex := 15, descriptorIndex := 12, attributes := #[] }])
  fields := #[{ name := "capacity", type := .long, accessFlags := 18, slot := 0, constantValue := 0 }, { name := "taken", type := .long, accessFlags := 2, slot := 1, constantValue := 0 }]
  methods := #[k2m0]
  instanceTypes := #[.long, .long]
  staticTypes := #[]
  resolved := Array.replicate 27 none
  statics := none }

def pool3 : Array CpInfo := pool [(1, .methodref 2 3), (0, .class_ 4), (0, .nameAndType 5 6), (0, u "java/lang/Object"), (0, u "<init>"), (0, u "()V"), (0, .fieldref 8 9), (0, .class_ 10), (0, .nameAndType 11 12), (0, u "com/example/weighted_scheduler/weightedscheduler/RequestBody"), (0, u "bytes"), (0, u "[B"), (0, .fieldref 8 14), (0, .nameAndType 15 16), (0, u "startedAt"), (0, u "J"), (0, .long 1048576), (1, .methodref 20 21), (0, .class_ 22), (0, .nameAndType 23 24), (0, u "java/lang/Math"), (0, u "min"), (0, u "(JJ)J"), (0, .fieldref 8 26), (0, .nameAndType 27 28), (0, u "longest"), (0, u "I"), (0, .fieldref 8 30), (0, .nameAndType 31 32), (0, u "memory"), (0, u "Lcom/example/weighted_scheduler/weightedscheduler/HeapShare;"), (8, u "size"), (11, u "refuse"), (0, u "(Lcom/example/weighted_scheduler/weightedscheduler/ApiError;)V"), (11, .fieldref 8 67), (0, .nameAndType 68 69), (0, u "shortOfMemory"), (0, u "Z"), (18, u "held"), (10, .fieldref 8 100), (0, .nameAndType 101 102), (0, u "refusal"), (0, u "Lcom/example/weighted_scheduler/weightedscheduler/ApiError;"), (33, u "MAX_BYTES"), (1, u "GRACE_MS"), (0, u "MIN_BYTES_PER_SECOND"), (0, u "(JJLcom/example/weighted_scheduler/weightedscheduler/HeapShare;)V"), (5, u "()Z"), (6, u "isWhole")] 17

def k3c0 : Code := { maxStack := 5, maxLocals := 6, code := prog_44_method_1_code, exceptionTable := #[], attributes := #[] }
def k3m0 : Method := { name := "<init>", desc := "(JJLcom/example/weighted_scheduler/weightedscheduler/HeapShare;)V", sig := { parameters := [.long, .long, (.object "com/example/weighted_scheduler/weightedscheduler/HeapShare")], returnType := none }, accessFlags := 0, code := some k3c0 }
def k3c1 : Code := { maxStack := 2, maxLocals := 2, code := prog_44_method_6_code, exceptionTable := #[], attributes := #[] }
def k3m1 : Method := { name := "refuse", desc := "(Lcom/example/weighted_scheduler/weightedscheduler/ApiError;)V", sig := { parameters := [(.object "com/example/weighted_scheduler/weightedscheduler/ApiError")], returnType := none }, accessFlags := 0, code := some k3c1 }
def k3c2 : Code := { maxStack := 1, maxLocals := 1, code := prog_44_method_11_code, exceptionTable := #[], attributes := #[] }
def k3m2 : Method := { name := "isWhole", desc := "()Z", sig := { parameters := [], returnType := some .boolean }, accessFlags := 0, code := some k3c2 }
/-- com/example/weighted_scheduler/weightedscheduler/RequestBody -/
def k3 : Class := { plain "com/example/weighted_scheduler/weightedscheduler/RequestBody" (some 0) with
  accessFlags := 48
  interfaces := #[]
  cf := some (fileOf pool3 8 #[] #[{ accessFlags := 0, nameIndex := 5, descriptorIndex := 140, attributes := #[] }, { accessFlags := 0, nameIndex := 53, descriptorIndex := 54, attributes := #[] }, { accessFlags := 0, nameIndex := 153, descriptorIndex := 146, attributes := #[] }] 48 2 #[] #[{ accessFlags := 24, nameIndex := 136, descriptorIndex := 28, attributes := #[] }, { accessFlags := 24, nameIndex := 138, descriptorIndex := 16, attributes := #[] }, { accessFlags := 24, nameIndex := 139, descriptorIndex := 16, attributes := #[] }, { accessFlags := 18, nameIndex := 15, descriptorIndex := 16, attributes := #[] }, { accessFlags := 18, nameIndex := 27, descriptorIndex := 28, attributes := #[] }, { accessFlags := 18, nameIndex := 31, descriptorIndex := 32, attributes := #[] }, { accessFlags := 2, nameIndex := 11, descriptorIndex := 12, attributes := #[] }, { accessFlags := 2, nameIndex := 41, descriptorIndex := 28, attributes := #[] }, { accessFlags := 2, nameIndex := 88, descriptorIndex := 16, attributes := #[] }, { accessFlags := 2, nameIndex := 68, descriptorIndex := 69, attributes := #[] }, { accessFlags := 2, nameIndex := 101, descriptorIndex := 102, attributes := #[] }])
  fields := #[{ name := "MAX_BYTES", type := .int, accessFlags := 24, slot := 0, constantValue := 0 }, { name := "GRACE_MS", type := .long, accessFlags := 24, slot := 1, constantValue := 0 }, { name := "MIN_BYTES_PER_SECOND", type := .long, accessFlags := 24, slot := 2, constantValue := 0 }, { name := "startedAt", type := .long, accessFlags := 18, slot := 0, constantValue := 0 }, { name := "longest", type := .int, accessFlags := 18, slot := 1, constantValue := 0 }, { name := "memory", type := (.object "com/example/weighted_scheduler/weightedscheduler/HeapShare"), accessFlags := 18, slot := 2, constantValue := 0 }, { name := "bytes", type := (.array .byte), accessFlags := 2, slot := 3, constantValue := 0 }, { name := "size", type := .int, accessFlags := 2, slot := 4, constantValue := 0 }, { name := "held", type := .long, accessFlags := 2, slot := 5, constantValue := 0 }, { name := "shortOfMemory", type := .boolean, accessFlags := 2, slot := 6, constantValue := 0 }, { name := "refusal", type := (.object "com/example/weighted_scheduler/weightedscheduler/ApiError"), accessFlags := 2, slot := 7, constantValue := 0 }]
  methods := #[k3m0, k3m1, k3m2]
  instanceTypes := #[.long, .int, (.object "com/example/weighted_scheduler/weightedscheduler/HeapShare"), (.array .byte), .int, .long, .boolean, (.object "com/example/weighted_scheduler/weightedscheduler/ApiError")]
  staticTypes := #[.int, .long, .long]
  resolved := Array.replicate 171 none
  statics := none }

def pool4 : Array CpInfo := pool [(1, .class_ 2), (0, u "java/io/Serializable"), (0, .class_ 4), (0, u "java/lang/Object")] 2

/-- java/io/Serializable -/
def k4 : Class := { plain "java/io/Serializable" (some 0) with
  accessFlags := 1537
  interfaces := #[]
  cf := some (fileOf pool4 1 #[] #[] 1537 3 #[] #[])
  fields := #[]
  methods := #[]
  instanceTypes := #[]
  staticTypes := #[]
  resolved := Array.replicate 7 none
  statics := none }

def pool5 : Array CpInfo := pool [(1, .methodref 2 3), (0, .class_ 4), (0, .nameAndType 5 6), (0, u "java/lang/Object"), (0, u "<init>"), (0, u "()V"), (0, .fieldref 8 9), (0, .class_ 10), (0, .nameAndType 11 12), (0, u "java/lang/Throwable"), (0, u "cause"), (0, u "Ljava/lang/Throwable;"), (0, .fieldref 8 14), (0, .nameAndType 15 16), (0, u "UNASSIGNED_STACK"), (0, u "[Ljava/lang/StackTraceElement;"), (0, .fieldref 8 18), (0, .nameAndType 19 16), (0, u "stackTrace"), (0, .fieldref 8 21), (0, .nameAndType 22 23), (0, u "SUPPRESSED_SENTINEL"), (0, u "Ljava/util/List;"), (0, .fieldref 8 25), (0, .nameAndType 26 23), (0, u "suppressedExceptions"), (0, .methodref 8 28), (0, .nameAndType 29 30), (0, u "fillInStackTrace"), (0, u "()Ljava/lang/Throwable;"), (0, .fieldref 8 32), (0, .nameAndType 33 34), (0, u "detailMessage"), (0, u "Ljava/lang/String;"), (58, .class_ 94), (0, u "java/lang/Throwable$WrappedPrintStream"), (6, .class_ 103), (1, u "java/lang/Throwable$PrintStreamOrWriter"), (61, u "$assertionsDisabled"), (0, u "Z"), (26, .class_ 194), (0, u "java/lang/Throwable$WrappedPrintWriter"), (3, .fieldref 8 199), (0, .nameAndType 200 201), (0, u "backtrace"), (0, u "Ljava/lang/Object;"), (0, .methodref 8 203), (0, .nameAndType 29 204), (0, u "(I)Ljava/lang/Throwable;"), (6, u "depth"), (0, u "I"), (10, u "(Ljava/lang/String;)V"), (45, .class_ 271), (1, u "java/lang/Throwable$SentinelHolder"), (32, u "EMPTY_THROWABLE_ARRAY"), (0, u "[Ljava/lang/Throwable;"), (12, .class_ 319), (0, u "java/io/Serializable"), (0, u "serialVersionUID"), (0, u "J"), (5, u "NULL_CAUSE_MESSAGE"), (0, u "SELF_SUPPRESSION_MESSAGE"), (0, u "CAUSE_CAPTION"), (0, u "SUPPRESSED_CAPTION")] 73

def k5c0 : Code := { maxStack := 2, maxLocals := 1, code := jdk_78_method_1_code, exceptionTable := #[], attributes := #[] }
def k5m0 : Method := { name := "<init>", desc := "()V", sig := { parameters := [], returnType := none }, accessFlags := 1, code := some k5c0 }
def k5c1 : Code := { maxStack := 2, maxLocals := 2, code := jdk_78_method_2_code, exceptionTable := #[], attributes := #[] }
def k5m1 : Method := { name := "<init>", desc := "(Ljava/lang/String;)V", sig := { parameters := [(.object "java/lang/String")], returnType := none }, accessFlags := 1, code := some k5c1 }
def k5c2 : Code := { maxStack := 2, maxLocals := 1, code := ⟨#[0x2a, 0xb4, 0x00, 0x11, 0xc7, 0x00, 0x0a, 0x2a, 0xb4, 0x00, 0xc6, 0xc6, 0x00, 0x10, 0x2a, 0x03, 0xb6, 0x00, 0xca, 0x57, 0x2a, 0xb2, 0x00, 0x0d, 0xb5, 0x00, 0x11, 0x2a, 0xb0]⟩, exceptionTable := #[], attributes := #[] }
def k5m2 : Method := { name := "fillInStackTrace", desc := "()Ljava/lang/Throwable;", sig := { parameters := [], returnType := some (.object "java/lang/Throwable") }, accessFlags := 33, code := some k5c2 }
def k5m3 : Method := { name := "fillInStackTrace", desc := "(I)Ljava/lang/Throwable;", sig := { parameters := [.int], returnType := some (.object "java/lang/Throwable") }, accessFlags := 258, code := none }
/-- java/lang/Throwable -/
def k5 : Class := { plain "java/lang/Throwable" (some 0) with
  accessFlags := 33
  interfaces := #[4]
  cf := some (fileOf pool5 8 #[.nestMembers #[193, 93, 101, 269]] #[{ accessFlags := 1, nameIndex := 5, descriptorIndex := 6, attributes := #[] }, { accessFlags := 1, nameIndex := 5, descriptorIndex := 223, attributes := #[] }, { accessFlags := 33, nameIndex := 29, descriptorIndex := 30, attributes := #[] }, { accessFlags := 258, nameIndex := 29, descriptorIndex := 204, attributes := #[] }] 33 2 #[318] #[{ accessFlags := 26, nameIndex := 320, descriptorIndex := 321, attributes := #[] }, { accessFlags := 130, nameIndex := 200, descriptorIndex := 201, attributes := #[] }, { accessFlags := 2, nameIndex := 33, descriptorIndex := 34, attributes := #[] }, { accessFlags := 26, nameIndex := 15, descriptorIndex := 16, attributes := #[] }, { accessFlags := 2, nameIndex := 11, descriptorIndex := 12, attributes := #[] }, { accessFlags := 2, nameIndex := 19, descriptorIndex := 16, attributes := #[] }, { accessFlags := 130, nameIndex := 211, descriptorIndex := 212, attributes := #[] }, { accessFlags := 26, nameIndex := 22, descriptorIndex := 23, attributes := #[] }, { accessFlags := 2, nameIndex := 26, descriptorIndex := 23, attributes := #[] }, { accessFlags := 26, nameIndex := 327, descriptorIndex := 34, attributes := #[] }, { accessFlags := 26, nameIndex := 328, descriptorIndex := 34, attributes := #[] }, { accessFlags := 26, nameIndex := 329, descriptorIndex := 34, attributes := #[] }, { accessFlags := 26, nameIndex := 330, descriptorIndex := 34, attributes := #[] }, { accessFlags := 26, nameIndex := 304, descriptorIndex := 305, attributes := #[] }, { accessFlags := 4120, nameIndex := 165, descriptorIndex := 166, attributes := #[] }])
  fields := #[{ name := "serialVersionUID", type := .long, accessFlags := 26, slot := 0, constantValue := 0 }, { name := "backtrace", type := (.object "java/lang/Object"), accessFlags := 130, slot := 0, constantValue := 0 }, { name := "detailMessage", type := (.object "java/lang/String"), accessFlags := 2, slot := 1, constantValue := 0 }, { name := "UNASSIGNED_STACK", type := (.array (.object "java/lang/StackTraceElement")), accessFlags := 26, slot := 1, constantValue := 0 }, { name := "cause", type := (.object "java/lang/Throwable"), accessFlags := 2, slot := 2, constantValue := 0 }, { name := "stackTrace", type := (.array (.object "java/lang/StackTraceElement")), accessFlags := 2, slot := 3, constantValue := 0 }, { name := "depth", type := .int, accessFlags := 130, slot := 4, constantValue := 0 }, { name := "SUPPRESSED_SENTINEL", type := (.object "java/util/List"), accessFlags := 26, slot := 2, constantValue := 0 }, { name := "suppressedExceptions", type := (.object "java/util/List"), accessFlags := 2, slot := 5, constantValue := 0 }, { name := "NULL_CAUSE_MESSAGE", type := (.object "java/lang/String"), accessFlags := 26, slot := 3, constantValue := 0 }, { name := "SELF_SUPPRESSION_MESSAGE", type := (.object "java/lang/String"), accessFlags := 26, slot := 4, constantValue := 0 }, { name := "CAUSE_CAPTION", type := (.object "java/lang/String"), accessFlags := 26, slot := 5, constantValue := 0 }, { name := "SUPPRESSED_CAPTION", type := (.object "java/lang/String"), accessFlags := 26, slot := 6, constantValue := 0 }, { name := "EMPTY_THROWABLE_ARRAY", type := (.array (.object "java/lang/Throwable")), accessFlags := 26, slot := 7, constantValue := 0 }, { name := "$assertionsDisabled", type := .boolean, accessFlags := 4120, slot := 8, constantValue := 0 }]
  methods := #[k5m0, k5m1, k5m2, k5m3]
  instanceTypes := #[(.object "java/lang/Object"), (.object "java/lang/String"), (.object "java/lang/Throwable"), (.array (.object "java/lang/StackTraceElement")), .int, (.object "java/util/List")]
  staticTypes := #[.long, (.array (.object "java/lang/StackTraceElement")), (.object "java/util/List"), (.object "java/lang/String"), (.object "java/lang/String"), (.object "java/lang/String"), (.object "java/lang/String"), (.array (.object "java/lang/Throwable")), .boolean]
  resolved := Array.replicate 404 none
  statics := some 0 }

def pool6 : Array CpInfo := pool [(2, .class_ 4), (1, u "java/lang/Throwable"), (0, u "<init>"), (0, u "()V"), (0, .methodref 2 8), (0, .nameAndType 5 9), (0, u "(Ljava/lang/String;)V"), (9, .class_ 20), (0, u "java/lang/Exception"), (0, u "serialVersionUID"), (0, u "J")] 17

def k6m0 : Method := { name := "<init>", desc := "()V", sig := { parameters := [], returnType := none }, accessFlags := 1, code := none }
def k6c1 : Code := { maxStack := 2, maxLocals := 2, code := jdk_59_method_2_code, exceptionTable := #[], attributes := #[] }
def k6m1 : Method := { name := "<init>", desc := "(Ljava/lang/String;)V", sig := { parameters := [(.object "java/lang/String")], returnType := none }, accessFlags := 1, code := some k6c1 }
/-- java/lang/Exception -/
def k6 : Class := { plain "java/lang/Exception" (some 5) with
  accessFlags := 33
  interfaces := #[]
  cf := some (fileOf pool6 19 #[] #[{ accessFlags := 1, nameIndex := 5, descriptorIndex := 6, attributes := #[] }, { accessFlags := 1, nameIndex := 5, descriptorIndex := 9, attributes := #[] }] 33 2 #[] #[{ accessFlags := 24, nameIndex := 21, descriptorIndex := 22, attributes := #[] }])
  fields := #[{ name := "serialVersionUID", type := .long, accessFlags := 24, slot := 0, constantValue := 0 }]
  methods := #[k6m0, k6m1]
  instanceTypes := #[(.object "java/lang/Object"), (.object "java/lang/String"), (.object "java/lang/Throwable"), (.array (.object "java/lang/StackTraceElement")), .int, (.object "java/util/List")]
  staticTypes := #[.long]
  resolved := Array.replicate 40 none
  statics := none }

def pool7 : Array CpInfo := pool [(2, .class_ 4), (1, u "java/lang/Exception"), (0, u "<init>"), (0, u "()V"), (0, .methodref 2 8), (0, .nameAndType 5 9), (0, u "(Ljava/lang/String;)V"), (9, .class_ 20), (0, u "java/lang/RuntimeException"), (0, u "serialVersionUID"), (0, u "J")] 17

def k7m0 : Method := { name := "<init>", desc := "()V", sig := { parameters := [], returnType := none }, accessFlags := 1, code := none }
def k7c1 : Code := { maxStack := 2, maxLocals := 2, code := jdk_58_method_2_code, exceptionTable := #[], attributes := #[] }
def k7m1 : Method := { name := "<init>", desc := "(Ljava/lang/String;)V", sig := { parameters := [(.object "java/lang/String")], returnType := none }, accessFlags := 1, code := some k7c1 }
/-- java/lang/RuntimeException -/
def k7 : Class := { plain "java/lang/RuntimeException" (some 6) with
  accessFlags := 33
  interfaces := #[]
  cf := some (fileOf pool7 19 #[] #[{ accessFlags := 1, nameIndex := 5, descriptorIndex := 6, attributes := #[] }, { accessFlags := 1, nameIndex := 5, descriptorIndex := 9, attributes := #[] }] 33 2 #[] #[{ accessFlags := 24, nameIndex := 21, descriptorIndex := 22, attributes := #[] }])
  fields := #[{ name := "serialVersionUID", type := .long, accessFlags := 24, slot := 0, constantValue := 0 }]
  methods := #[k7m0, k7m1]
  instanceTypes := #[(.object "java/lang/Object"), (.object "java/lang/String"), (.object "java/lang/Throwable"), (.array (.object "java/lang/StackTraceElement")), .int, (.object "java/util/List")]
  staticTypes := #[.long]
  resolved := Array.replicate 40 none
  statics := none }

def pool8 : Array CpInfo := pool [(1, .interfaceMethodref 2 3), (0, .class_ 4), (0, .nameAndType 5 6), (0, u "java/util/Map"), (0, u "of"), (0, u "()Ljava/util/Map;"), (0, .methodref 8 9), (0, .class_ 10), (0, .nameAndType 11 12), (0, u "com/example/weighted_scheduler/weightedscheduler/ApiError"), (0, u "<init>"), (0, u "(ILjava/lang/String;Ljava/lang/String;Ljava/util/Map;)V"), (0, .methodref 14 15), (0, .class_ 16), (0, .nameAndType 11 17), (0, u "java/lang/RuntimeException"), (0, u "(Ljava/lang/String;)V"), (0, .fieldref 8 19), (0, .nameAndType 20 21), (0, u "status"), (0, u "I"), (0, .fieldref 8 23), (0, .nameAndType 24 25), (0, u "code"), (0, u "Ljava/lang/String;"), (0, .fieldref 8 27), (0, .nameAndType 28 29), (0, u "members"), (0, u "Ljava/util/Map;"), (4, u "(ILjava/lang/String;Ljava/lang/String;)V"), (51, .class_ 88), (1, u "com/example/weighted_scheduler/weightedscheduler/ApiError$1"), (58, u "serialVersionUID"), (0, u "J"), (5, u "MALFORMED_REQUEST")] 43

def k8c0 : Code := { maxStack := 5, maxLocals := 4, code := prog_3_method_1_code, exceptionTable := #[], attributes := #[] }
def k8m0 : Method := { name := "<init>", desc := "(ILjava/lang/String;Ljava/lang/String;)V", sig := { parameters := [.int, (.object "java/lang/String"), (.object "java/lang/String")], returnType := none }, accessFlags := 0, code := some k8c0 }
def k8c1 : Code := { maxStack := 2, maxLocals := 5, code := prog_3_method_2_code, exceptionTable := #[], attributes := #[] }
def k8m1 : Method := { name := "<init>", desc := "(ILjava/lang/String;Ljava/lang/String;Ljava/util/Map;)V", sig := { parameters := [.int, (.object "java/lang/String"), (.object "java/lang/String"), (.object "java/util/Map")], returnType := none }, accessFlags := 2, code := some k8c1 }
/-- com/example/weighted_scheduler/weightedscheduler/ApiError -/
def k8 : Class := { plain "com/example/weighted_scheduler/weightedscheduler/ApiError" (some 7) with
  accessFlags := 48
  interfaces := #[]
  cf := some (fileOf pool8 8 #[.nestMembers #[86]] #[{ accessFlags := 0, nameIndex := 11, descriptorIndex := 34, attributes := #[] }, { accessFlags := 2, nameIndex := 11, descriptorIndex := 12, attributes := #[] }] 48 14 #[] #[{ accessFlags := 26, nameIndex := 147, descriptorIndex := 148, attributes := #[] }, { accessFlags := 18, nameIndex := 20, descriptorIndex := 21, attributes := #[] }, { accessFlags := 18, nameIndex := 24, descriptorIndex := 25, attributes := #[] }, { accessFlags := 18, nameIndex := 28, descriptorIndex := 29, attributes := #[] }, { accessFlags := 24, nameIndex := 154, descriptorIndex := 25, attributes := #[] }])
  fields := #[{ name := "serialVersionUID", type := .long, accessFlags := 26, slot := 0, constantValue := 0 }, { name := "status", type := .int, accessFlags := 18, slot := 6, constantValue := 0 }, { name := "code", type := (.object "java/lang/String"), accessFlags := 18, slot := 7, constantValue := 0 }, { name := "members", type := (.object "java/util/Map"), accessFlags := 18, slot := 8, constantValue := 0 }, { name := "MALFORMED_REQUEST", type := (.object "java/lang/String"), accessFlags := 24, slot := 1, constantValue := 0 }]
  methods := #[k8m0, k8m1]
  instanceTypes := #[(.object "java/lang/Object"), (.object "java/lang/String"), (.object "java/lang/Throwable"), (.array (.object "java/lang/StackTraceElement")), .int, (.object "java/util/List"), .int, (.object "java/lang/String"), (.object "java/util/Map")]
  staticTypes := #[.long, (.object "java/lang/String")]
  resolved := Array.replicate 198 none
  statics := none }

def pool9 : Array CpInfo := pool [(1, .class_ 2), (0, u "java/lang/Comparable"), (0, .class_ 4), (0, u "java/lang/Object")] 7

/-- java/lang/Comparable -/
def k9 : Class := { plain "java/lang/Comparable" (some 0) with
  accessFlags := 1537
  interfaces := #[]
  cf := some (fileOf pool9 1 #[] #[] 1537 3 #[] #[])
  fields := #[]
  methods := #[]
  instanceTypes := #[]
  staticTypes := #[]
  resolved := Array.replicate 12 none
  statics := none }

def pool10 : Array CpInfo := pool [(2, .class_ 4), (1, u "java/lang/CharSequence"), (42, .class_ 48), (0, u "java/lang/CharSequence$1CodePointIterator"), (10, .class_ 60), (0, u "java/lang/CharSequence$1CharIterator"), (5, .class_ 67), (0, u "java/lang/Object")] 63

/-- java/lang/CharSequence -/
def k10 : Class := { plain "java/lang/CharSequence" (some 0) with
  accessFlags := 1537
  interfaces := #[]
  cf := some (fileOf pool10 2 #[.nestMembers #[47, 59]] #[] 1537 66 #[] #[])
  fields := #[]
  methods := #[]
  instanceTypes := #[]
  staticTypes := #[]
  resolved := Array.replicate 131 none
  statics := none }

def pool11 : Array CpInfo := pool [(1, .class_ 2), (0, u "java/lang/constant/Constable"), (0, .class_ 4), (0, u "java/lang/Object")] 6

/-- java/lang/constant/Constable -/
def k11 : Class := { plain "java/lang/constant/Constable" (some 0) with
  accessFlags := 1537
  interfaces := #[]
  cf := some (fileOf pool11 1 #[] #[] 1537 3 #[] #[])
  fields := #[]
  methods := #[]
  instanceTypes := #[]
  staticTypes := #[]
  resolved := Array.replicate 11 none
  statics := none }

def pool12 : Array CpInfo := pool [(1, .class_ 2), (0, u "java/lang/constant/ConstantDesc"), (0, .class_ 4), (0, u "java/lang/Object")] 32

/-- java/lang/constant/ConstantDesc -/
def k12 : Class := { plain "java/lang/constant/ConstantDesc" (some 0) with
  accessFlags := 1537
  interfaces := #[]
  cf := some (fileOf pool12 1 #[] #[] 1537 3 #[] #[])
  fields := #[]
  methods := #[]
  instanceTypes := #[]
  staticTypes := #[]
  resolved := Array.replicate 37 none
  statics := none }

def pool13 : Array CpInfo := pool [(2, .class_ 4), (1, u "java/lang/Object"), (0, u "<init>"), (0, u "()V"), (3, .class_ 12), (1, u "java/lang/String"), (0, u "value"), (0, u "[B"), (2, u "coder"), (0, u "B"), (2, u "hash"), (0, u "I"), (2, u "hashIsZero"), (0, u "Z"), (13, u "COMPACT_STRINGS"), (534, .class_ 576), (0, u "java/lang/CharSequence"), (22, u "CASE_INSENSITIVE_ORDER"), (0, u "Ljava/util/Comparator;"), (500, u "serialPersistentFields"), (0, u "[Ljava/io/ObjectStreamField;"), (0, .class_ 1104), (0, u "java/lang/String$CaseInsensitiveComparator"), (1, .class_ 1107), (0, u "java/io/Serializable"), (0, .class_ 1109), (0, u "java/lang/Comparable"), (0, .class_ 1111), (0, u "java/lang/constant/Constable"), (0, .class_ 1113), (0, u "java/lang/constant/ConstantDesc"), (2, u "serialVersionUID"), (0, u "J"), (3, u "REPL"), (0, u "C"), (2, u "LATIN1"), (1, u "UTF16")] 323

def k13m0 : Method := { name := "<init>", desc := "()V", sig := { parameters := [], returnType := none }, accessFlags := 1, code := none }
/-- java/lang/String -/
def k13 : Class := { plain "java/lang/String" (some 0) with
  accessFlags := 49
  interfaces := #[4, 9, 10, 11, 12]
  cf := some (fileOf pool13 10 #[.nestMembers #[1103]] #[{ accessFlags := 1, nameIndex := 5, descriptorIndex := 6, attributes := #[] }] 49 2 #[1106, 1108, 575, 1110, 1112] #[{ accessFlags := 18, nameIndex := 13, descriptorIndex := 14, attributes := #[] }, { accessFlags := 18, nameIndex := 17, descriptorIndex := 18, attributes := #[] }, { accessFlags := 2, nameIndex := 21, descriptorIndex := 22, attributes := #[] }, { accessFlags := 2, nameIndex := 25, descriptorIndex := 26, attributes := #[] }, { accessFlags := 26, nameIndex := 1116, descriptorIndex := 1117, attributes := #[] }, { accessFlags := 24, nameIndex := 40, descriptorIndex := 26, attributes := #[] }, { accessFlags := 26, nameIndex := 1101, descriptorIndex := 1102, attributes := #[] }, { accessFlags := 26, nameIndex := 1121, descriptorIndex := 1122, attributes := #[] }, { accessFlags := 25, nameIndex := 599, descriptorIndex := 600, attributes := #[] }, { accessFlags := 24, nameIndex := 1125, descriptorIndex := 18, attributes := #[] }, { accessFlags := 24, nameIndex := 1127, descriptorIndex := 18, attributes := #[] }])
  fields := #[{ name := "value", type := (.array .byte), accessFlags := 18, slot := 0, constantValue := 0 }, { name := "coder", type := .byte, accessFlags := 18, slot := 1, constantValue := 0 }, { name := "hash", type := .int, accessFlags := 2, slot := 2, constantValue := 0 }, { name := "hashIsZero", type := .boolean, accessFlags := 2, slot := 3, constantValue := 0 }, { name := "serialVersionUID", type := .long, accessFlags := 26, slot := 0, constantValue := 0 }, { name := "COMPACT_STRINGS", type := .boolean, accessFlags := 24, slot := 1, constantValue := 0 }, { name := "serialPersistentFields", type := (.array (.object "java/io/ObjectStreamField")), accessFlags := 26, slot := 2, constantValue := 0 }, { name := "REPL", type := .char, accessFlags := 26, slot := 3, constantValue := 0 }, { name := "CASE_INSENSITIVE_ORDER", type := (.object "java/util/Comparator"), accessFlags := 25, slot := 4, constantValue := 0 }, { name := "LATIN1", type := .byte, accessFlags := 24, slot := 5, constantValue := 0 }, { name := "UTF16", type := .byte, accessFlags := 24, slot := 6, constantValue := 0 }]
  methods := #[k13m0]
  instanceTypes := #[(.array .byte), .byte, .int, .boolean]
  staticTypes := #[.long, .boolean, (.array (.object "java/io/ObjectStreamField")), .char, (.object "java/util/Comparator"), .byte, .byte]
  resolved := Array.replicate 1451 none
  statics := none }

def pool14 : Array CpInfo := pool [(2, .class_ 4), (1, u "java/util/Map"), (31, .class_ 37), (0, u "java/util/Map$Entry"), (43, .fieldref 82 83), (0, .class_ 84), (0, .nameAndType 85 86), (0, u "java/util/ImmutableCollections"), (0, u "EMPTY_MAP"), (0, u "Ljava/util/ImmutableCollections$MapN;"), (6, .class_ 94), (0, u "java/lang/Object"), (13, u "of"), (0, u "()Ljava/util/Map;")] 153

def k14c0 : Code := { maxStack := 1, maxLocals := 0, code := jdk_72_method_26_code, exceptionTable := #[], attributes := #[] }
def k14m0 : Method := { name := "of", desc := "()Ljava/util/Map;", sig := { parameters := [], returnType := some (.object "java/util/Map") }, accessFlags := 9, code := some k14c0 }
/-- java/util/Map -/
def k14 : Class := { plain "java/util/Map" (some 0) with
  accessFlags := 1537
  interfaces := #[]
  cf := some (fileOf pool14 2 #[.nestMembers #[36]] #[{ accessFlags := 9, nameIndex := 108, descriptorIndex := 109, attributes := #[] }] 1537 93 #[] #[])
  fields := #[]
  methods := #[k14m0]
  instanceTypes := #[]
  staticTypes := #[]
  resolved := Array.replicate 263 none
  statics := none }

def pool15 : Array CpInfo := pool [(2, .class_ 4), (1, u "java/lang/Object"), (0, u "<init>"), (0, u "()V"), (3, .class_ 11), (0, u "java/util/ImmutableCollections$List12"), (0, .class_ 13), (0, u "java/util/ImmutableCollections$ListN"), (3, u "Z"), (29, .class_ 49), (1, u "java/util/ImmutableCollections"), (0, u "$assertionsDisabled"), (5, u "[Ljava/lang/Object;"), (5, u "EMPTY_LIST"), (0, u "Ljava/util/ImmutableCollections$ListN;"), (8, u "EMPTY_LIST_NULLS"), (22, u "SALT32L"), (0, u "J"), (2, u "REVERSE"), (6, u "archivedObjects"), (2, u "EMPTY"), (0, u "Ljava/lang/Object;"), (0, .class_ 112), (0, u "java/util/ImmutableCollections$SetN"), (5, u "EMPTY_SET"), (0, u "Ljava/util/ImmutableCollections$SetN;"), (0, .class_ 121), (0, u "java/util/ImmutableCollections$MapN"), (3, u "EMPTY_MAP"), (0, u "Ljava/util/ImmutableCollections$MapN;"), (4, u "EXPAND_FACTOR"), (0, u "I"), (36, .class_ 170), (0, u "java/util/ImmutableCollections$MapN$MapNIterator"), (0, .class_ 172), (0, u "java/util/ImmutableCollections$MapN$1"), (0, .class_ 174), (0, u "java/util/ImmutableCollections$Map1"), (0, .class_ 176), (0, u "java/util/ImmutableCollections$AbstractImmutableMap"), (0, .class_ 178), (0, u "java/util/ImmutableCollections$SetN$SetNIterator"), (0, .class_ 180), (0, u "java/util/ImmutableCollections$Set12"), (0, .class_ 182), (0, u "java/util/ImmutableCollections$Set12$1"), (0, .class_ 184), (0, u "java/util/ImmutableCollections$AbstractImmutableSet"), (0, .class_ 186), (0, u "java/util/ImmutableCollections$SubList"), (0, .class_ 188), (0, u "java/util/ImmutableCollections$ListItr"), (0, .class_ 190), (0, u "java/util/ImmutableCollections$AbstractImmutableList"), (0, .class_ 192), (0, u "java/util/ImmutableCollections$AbstractImmutableCollection"), (0, .class_ 194), (0, u "java/util/ImmutableCollections$Access"), (0, .class_ 196), (0, u "java/util/ImmutableCollections$Access$1")] 16

def k15m0 : Method := { name := "<init>", desc := "()V", sig := { parameters := [], returnType := none }, accessFlags := 2, code := none }
/-- java/util/ImmutableCollections -/
def k15 : Class := { plain "java/util/ImmutableCollections" (some 0) with
  accessFlags := 32
  interfaces := #[]
  cf := some (fileOf pool15 47 #[.nestMembers #[120, 169, 171, 173, 175, 111, 177, 179, 181, 183, 12, 10, 185, 187, 189, 191, 193, 195]] #[{ accessFlags := 2, nameIndex := 5, descriptorIndex := 6, attributes := #[] }] 32 2 #[] #[{ accessFlags := 26, nameIndex := 95, descriptorIndex := 96, attributes := #[] }, { accessFlags := 26, nameIndex := 99, descriptorIndex := 17, attributes := #[] }, { accessFlags := 10, nameIndex := 106, descriptorIndex := 56, attributes := #[] }, { accessFlags := 26, nameIndex := 109, descriptorIndex := 110, attributes := #[] }, { accessFlags := 24, nameIndex := 62, descriptorIndex := 63, attributes := #[] }, { accessFlags := 24, nameIndex := 72, descriptorIndex := 63, attributes := #[] }, { accessFlags := 24, nameIndex := 118, descriptorIndex := 119, attributes := #[] }, { accessFlags := 24, nameIndex := 125, descriptorIndex := 126, attributes := #[] }, { accessFlags := 24, nameIndex := 131, descriptorIndex := 132, attributes := #[] }, { accessFlags := 4120, nameIndex := 50, descriptorIndex := 17, attributes := #[] }])
  fields := #[{ name := "SALT32L", type := .long, accessFlags := 26, slot := 0, constantValue := 0 }, { name := "REVERSE", type := .boolean, accessFlags := 26, slot := 1, constantValue := 0 }, { name := "archivedObjects", type := (.array (.object "java/lang/Object")), accessFlags := 10, slot := 2, constantValue := 0 }, { name := "EMPTY", type := (.object "java/lang/Object"), accessFlags := 26, slot := 3, constantValue := 0 }, { name := "EMPTY_LIST", type := (.object "java/util/ImmutableCollections$ListN"), accessFlags := 24, slot := 4, constantValue := 0 }, { name := "EMPTY_LIST_NULLS", type := (.object "java/util/ImmutableCollections$ListN"), accessFlags := 24, slot := 5, constantValue := 0 }, { name := "EMPTY_SET", type := (.object "java/util/ImmutableCollections$SetN"), accessFlags := 24, slot := 6, constantValue := 0 }, { name := "EMPTY_MAP", type := (.object "java/util/ImmutableCollections$MapN"), accessFlags := 24, slot := 7, constantValue := 0 }, { name := "EXPAND_FACTOR", type := .int, accessFlags := 24, slot := 8, constantValue := 0 }, { name := "$assertionsDisabled", type := .boolean, accessFlags := 4120, slot := 9, constantValue := 0 }]
  methods := #[k15m0]
  instanceTypes := #[]
  staticTypes := #[.long, .boolean, (.array (.object "java/lang/Object")), (.object "java/lang/Object"), (.object "java/util/ImmutableCollections$ListN"), (.object "java/util/ImmutableCollections$ListN"), (.object "java/util/ImmutableCollections$SetN"), (.object "java/util/ImmutableCollections$MapN"), .int, .boolean]
  resolved := Array.replicate 213 none
  statics := some 1 }

def pool16 : Array CpInfo := pool [(1, .class_ 2), (0, u "java/lang/Math"), (1, .class_ 6), (1, u "java/lang/Object"), (0, u "<init>"), (0, u "()V"), (89, .class_ 100), (1, u "java/lang/Math$RandomNumberGeneratorHolder"), (20, u "(JJ)J"), (50, u "negativeZeroFloatBits"), (0, u "J"), (2, u "negativeZeroDoubleBits"), (24, u "min"), (43, u "$assertionsDisabled"), (0, u "Z"), (91, u "twoToTheDoubleScaleDown"), (0, u "D"), (4, u "twoToTheDoubleScaleUp"), (9, u "E"), (3, u "PI"), (2, u "TAU"), (2, u "DEGREES_TO_RADIANS"), (0, u "RADIANS_TO_DEGREES")] 94

def k16m0 : Method := { name := "<init>", desc := "()V", sig := { parameters := [], returnType := none }, accessFlags := 2, code := none }
def k16c1 : Code := { maxStack := 4, maxLocals := 4, code := jdk_29_method_70_code, exceptionTable := #[], attributes := #[] }
def k16m1 : Method := { name := "min", desc := "(JJ)J", sig := { parameters := [.long, .long], returnType := some .long }, accessFlags := 9, code := some k16c1 }
/-- java/lang/Math -/
def k16 : Class := { plain "java/lang/Math" (some 0) with
  accessFlags := 49
  interfaces := #[]
  cf := some (fileOf pool16 1 #[.nestMembers #[98]] #[{ accessFlags := 2, nameIndex := 7, descriptorIndex := 8, attributes := #[] }, { accessFlags := 9, nameIndex := 201, descriptorIndex := 121, attributes := #[] }] 49 4 #[] #[{ accessFlags := 25, nameIndex := 354, descriptorIndex := 339, attributes := #[] }, { accessFlags := 25, nameIndex := 358, descriptorIndex := 339, attributes := #[] }, { accessFlags := 25, nameIndex := 361, descriptorIndex := 339, attributes := #[] }, { accessFlags := 26, nameIndex := 364, descriptorIndex := 339, attributes := #[] }, { accessFlags := 26, nameIndex := 365, descriptorIndex := 339, attributes := #[] }, { accessFlags := 26, nameIndex := 172, descriptorIndex := 173, attributes := #[] }, { accessFlags := 26, nameIndex := 176, descriptorIndex := 173, attributes := #[] }, { accessFlags := 8, nameIndex := 344, descriptorIndex := 339, attributes := #[] }, { accessFlags := 8, nameIndex := 338, descriptorIndex := 339, attributes := #[] }, { accessFlags := 4120, nameIndex := 245, descriptorIndex := 246, attributes := #[] }])
  fields := #[{ name := "E", type := .double, accessFlags := 25, slot := 0, constantValue := 0 }, { name := "PI", type := .double, accessFlags := 25, slot := 1, constantValue := 0 }, { name := "TAU", type := .double, accessFlags := 25, slot := 2, constantValue := 0 }, { name := "DEGREES_TO_RADIANS", type := .double, accessFlags := 26, slot := 3, constantValue := 0 }, { name := "RADIANS_TO_DEGREES", type := .double, accessFlags := 26, slot := 4, constantValue := 0 }, { name := "negativeZeroFloatBits", type := .long, accessFlags := 26, slot := 5, constantValue := 0 }, { name := "negativeZeroDoubleBits", type := .long, accessFlags := 26, slot := 6, constantValue := 0 }, { name := "twoToTheDoubleScaleUp", type := .double, accessFlags := 8, slot := 7, constantValue := 0 }, { name := "twoToTheDoubleScaleDown", type := .double, accessFlags := 8, slot := 8, constantValue := 0 }, { name := "$assertionsDisabled", type := .boolean, accessFlags := 4120, slot := 9, constantValue := 0 }]
  methods := #[k16m0, k16m1]
  instanceTypes := #[]
  staticTypes := #[.double, .double, .double, .double, .double, .long, .long, .double, .double, .boolean]
  resolved := Array.replicate 460 none
  statics := none }

def pool17 : Array CpInfo := pool [(2, .class_ 4), (1, u "java/lang/Object"), (0, u "<init>"), (0, u "()V"), (12, .class_ 20), (0, u "java/util/Collections"), (63, u "r"), (0, u "Ljava/util/Random;"), (80, .class_ 167), (0, u "java/util/Collections$UnmodifiableCollection"), (6, .class_ 175), (0, u "java/util/Collections$UnmodifiableSequencedCollection"), (6, .class_ 183), (0, u "java/util/Collections$UnmodifiableSet"), (6, .class_ 191), (0, u "java/util/Collections$UnmodifiableSequencedSet"), (6, .class_ 199), (0, u "java/util/Collections$UnmodifiableSortedSet"), (6, .class_ 207), (0, u "java/util/Collections$UnmodifiableNavigableSet"), (4, .class_ 213), (0, u "java/util/Collections$UnmodifiableList"), (1, .class_ 216), (0, u "java/util/Collections$UnmodifiableRandomAccessList"), (6, .class_ 224), (0, u "java/util/Collections$UnmodifiableMap"), (6, .class_ 232), (0, u "java/util/Collections$UnmodifiableSequencedMap"), (4, .class_ 238), (0, u "java/util/Collections$UnmodifiableSortedMap"), (6, .class_ 246), (0, u "java/util/Collections$UnmodifiableNavigableMap"), (3, .class_ 251), (0, u "java/util/Collections$SynchronizedCollection"), (4, .class_ 257), (0, u "java/util/Collections$SynchronizedSet"), (4, .class_ 263), (0, u "java/util/Collections$SynchronizedSortedSet"), (1, .class_ 266), (0, u "java/util/Collections$SynchronizedNavigableSet"), (1, .class_ 269), (0, u "java/util/Collections$SynchronizedRandomAccessList"), (1, .class_ 272), (0, u "java/util/Collections$SynchronizedList"), (5, .class_ 279), (0, u "java/util/Collections$SynchronizedMap"), (1, .class_ 282), (0, u "java/util/Collections$SynchronizedSortedMap"), (1, .class_ 285), (0, u "java/util/Collections$SynchronizedNavigableMap"), (1, .class_ 288), (0, u "java/util/Collections$CheckedCollection"), (11, .class_ 301), (0, u "java/util/Collections$CheckedQueue"), (3, .class_ 306), (0, u "java/util/Collections$CheckedSet"), (3, .class_ 311), (0, u "java/util/Collections$CheckedSortedSet"), (3, .class_ 316), (0, u "java/util/Collections$CheckedNavigableSet"), (3, .class_ 321), (0, u "java/util/Collections$CheckedRandomAccessList"), (3, .class_ 326), (0, u "java/util/Collections$CheckedList"), (1, .class_ 329), (0, u "java/util/Collections$CheckedMap"), (3, .class_ 334), (0, u "java/util/Collections$CheckedSortedMap"), (3, .class_ 339), (0, u "java/util/Collections$CheckedNavigableMap"), (4, .class_ 346), (1, u "java/util/Collections$EmptyIterator"), (3, .class_ 352), (1, u "java/util/Collections$EmptyListIterator"), (2, .class_ 357), (1, u "java/util/Collections$EmptyEnumeration"), (4, u "EMPTY_SET"), (0, u "Ljava/util/Set;"), (6, u "EMPTY_LIST"), (0, u "Ljava/util/List;"), (2, u "EMPTY_MAP"), (0, u "Ljava/util/Map;"), (4, .class_ 381), (0, u "java/util/Collections$SingletonSet"), (2, .class_ 385), (0, u "java/util/Collections$1"), (1, .class_ 388), (0, u "java/util/Collections$2"), (1, .class_ 391), (0, u "java/util/Collections$SingletonList"), (1, .class_ 394), (0, u "java/util/Collections$SingletonMap"), (22, .class_ 418), (0, u "java/util/Collections$CopiesList"), (4, .class_ 425), (1, u "java/util/Collections$ReverseComparator"), (8, .class_ 435), (0, u "java/util/Collections$ReverseComparator2"), (6, .class_ 443), (0, u "java/util/Collections$3"), (25, .class_ 470), (0, u "java/util/Collections$SetFromMap"), (2, .class_ 474), (0, u "java/util/Collections$SequencedSetFromMap"), (3, .class_ 479), (0, u "java/util/Collections$AsLIFOQueue"), (11, .class_ 492), (0, u "java/util/Collections$EmptySet"), (1, .class_ 495), (0, u "java/util/Collections$EmptyList"), (1, .class_ 498), (0, u "java/util/Collections$EmptyMap"), (1, u "BINARYSEARCH_THRESHOLD"), (0, u "I"), (2, u "REVERSE_THRESHOLD"), (1, u "SHUFFLE_THRESHOLD"), (1, u "FILL_THRESHOLD"), (1, u "ROTATE_THRESHOLD"), (1, u "COPY_THRESHOLD"), (1, u "REPLACEALL_THRESHOLD"), (1, u "INDEXOFSUBLIST_THRESHOLD"), (333, .class_ 851), (0, u "java/util/Collections$CheckedMap$CheckedEntrySet"), (0, .class_ 853), (0, u "java/util/Collections$CheckedMap$CheckedEntrySet$CheckedEntry"), (0, .class_ 855), (0, u "java/util/Collections$CheckedMap$CheckedEntrySet$1"), (0, .class_ 857), (0, u "java/util/Collections$CheckedList$1"), (0, .class_ 859), (0, u "java/util/Collections$CheckedCollection$1"), (0, .class_ 861), (0, u "java/util/Collections$UnmodifiableNavigableMap$EmptyNavigableMap"), (0, .class_ 863), (0, u "java/util/Collections$UnmodifiableMap$UnmodifiableEntrySet"), (0, .class_ 865), (0, u "java/util/Collections$UnmodifiableMap$UnmodifiableEntrySet$UnmodifiableEntry"), (0, .class_ 867), (0, u "java/util/Collections$UnmodifiableMap$UnmodifiableEntrySet$UnmodifiableEntrySetSpliterator"), (0, .class_ 869), (0, u "java/util/Collections$UnmodifiableMap$UnmodifiableEntrySet$1"), (0, .class_ 871), (0, u "java/util/Collections$UnmodifiableList$1"), (0, .class_ 873), (0, u "java/util/Collections$UnmodifiableNavigableSet$EmptyNavigableSet"), (0, .class_ 875), (0, u "java/util/Collections$UnmodifiableCollection$1")] 57

def k17m0 : Method := { name := "<init>", desc := "()V", sig := { parameters := [], returnType := none }, accessFlags := 2, code := none }
/-- java/util/Collections -/
def k17 : Class := { plain "java/util/Collections" (some 0) with
  accessFlags := 33
  interfaces := #[]
  cf := some (fileOf pool17 19 #[.nestMembers #[478, 473, 469, 434, 423, 417, 393, 390, 380, 497, 494, 491, 355, 350, 344, 338, 333, 328, 850, 852, 854, 320, 325, 856, 315, 310, 305, 300, 287, 858, 284, 281, 278, 268, 271, 265, 262, 256, 250, 245, 860, 237, 231, 223, 862, 864, 866, 868, 215, 212, 870, 206, 872, 198, 190, 182, 174, 166, 874, 442, 387, 384]] #[{ accessFlags := 2, nameIndex := 5, descriptorIndex := 6, attributes := #[] }] 33 2 #[] #[{ accessFlags := 26, nameIndex := 500, descriptorIndex := 501, attributes := #[] }, { accessFlags := 26, nameIndex := 504, descriptorIndex := 501, attributes := #[] }, { accessFlags := 26, nameIndex := 506, descriptorIndex := 501, attributes := #[] }, { accessFlags := 26, nameIndex := 508, descriptorIndex := 501, attributes := #[] }, { accessFlags := 26, nameIndex := 510, descriptorIndex := 501, attributes := #[] }, { accessFlags := 26, nameIndex := 512, descriptorIndex := 501, attributes := #[] }, { accessFlags := 26, nameIndex := 514, descriptorIndex := 501, attributes := #[] }, { accessFlags := 26, nameIndex := 516, descriptorIndex := 501, attributes := #[] }, { accessFlags := 10, nameIndex := 84, descriptorIndex := 85, attributes := #[] }, { accessFlags := 25, nameIndex := 362, descriptorIndex := 363, attributes := #[] }, { accessFlags := 25, nameIndex := 370, descriptorIndex := 371, attributes := #[] }, { accessFlags := 25, nameIndex := 374, descriptorIndex := 375, attributes := #[] }])
  fields := #[{ name := "BINARYSEARCH_THRESHOLD", type := .int, accessFlags := 26, slot := 0, constantValue := 0 }, { name := "REVERSE_THRESHOLD", type := .int, accessFlags := 26, slot := 1, constantValue := 0 }, { name := "SHUFFLE_THRESHOLD", type := .int, accessFlags := 26, slot := 2, constantValue := 0 }, { name := "FILL_THRESHOLD", type := .int, accessFlags := 26, slot := 3, constantValue := 0 }, { name := "ROTATE_THRESHOLD", type := .int, accessFlags := 26, slot := 4, constantValue := 0 }, { name := "COPY_THRESHOLD", type := .int, accessFlags := 26, slot := 5, constantValue := 0 }, { name := "REPLACEALL_THRESHOLD", type := .int, accessFlags := 26, slot := 6, constantValue := 0 }, { name := "INDEXOFSUBLIST_THRESHOLD", type := .int, accessFlags := 26, slot := 7, constantValue := 0 }, { name := "r", type := (.object "java/util/Random"), accessFlags := 10, slot := 8, constantValue := 0 }, { name := "EMPTY_SET", type := (.object "java/util/Set"), accessFlags := 25, slot := 9, constantValue := 0 }, { name := "EMPTY_LIST", type := (.object "java/util/List"), accessFlags := 25, slot := 10, constantValue := 0 }, { name := "EMPTY_MAP", type := (.object "java/util/Map"), accessFlags := 25, slot := 11, constantValue := 0 }]
  methods := #[k17m0]
  instanceTypes := #[]
  staticTypes := #[.int, .int, .int, .int, .int, .int, .int, .int, (.object "java/util/Random"), (.object "java/util/Set"), (.object "java/util/List"), (.object "java/util/Map")]
  resolved := Array.replicate 933 none
  statics := some 2 }

def pool18 : Array CpInfo := pool [(2, .class_ 4), (1, u "java/lang/Object"), (0, u "<init>"), (0, u "()V"), (1, .class_ 10), (1, u "java/util/AbstractMap"), (42, .class_ 54), (0, u "java/util/Map"), (9, u "keySet"), (0, u "Ljava/util/Set;"), (0, .class_ 67), (0, u "java/util/AbstractMap$1"), (5, u "values"), (0, u "Ljava/util/Collection;"), (0, .class_ 76), (0, u "java/util/AbstractMap$2"), (104, .class_ 182), (0, u "java/util/AbstractMap$ViewCollection"), (0, .class_ 184), (0, u "java/util/AbstractMap$SimpleImmutableEntry"), (0, .class_ 186), (0, u "java/util/AbstractMap$SimpleEntry"), (0, .class_ 188), (0, u "java/util/AbstractMap$2$1"), (0, .class_ 190), (0, u "java/util/AbstractMap$1$1")] 5

def k18m0 : Method := { name := "<init>", desc := "()V", sig := { parameters := [], returnType := none }, accessFlags := 4, code := none }
/-- java/util/AbstractMap -/
def k18 : Class := { plain "java/util/AbstractMap" (some 0) with
  accessFlags := 1057
  interfaces := #[14]
  cf := some (fileOf pool18 8 #[.nestMembers #[181, 183, 185, 75, 187, 66, 189]] #[{ accessFlags := 4, nameIndex := 5, descriptorIndex := 6, attributes := #[] }] 1057 2 #[53] #[{ accessFlags := 128, nameIndex := 64, descriptorIndex := 65, attributes := #[] }, { accessFlags := 128, nameIndex := 73, descriptorIndex := 74, attributes := #[] }])
  fields := #[{ name := "keySet", type := (.object "java/util/Set"), accessFlags := 128, slot := 0, constantValue := 0 }, { name := "values", type := (.object "java/util/Collection"), accessFlags := 128, slot := 1, constantValue := 0 }]
  methods := #[k18m0]
  instanceTypes := #[(.object "java/util/Set"), (.object "java/util/Collection")]
  staticTypes := #[]
  resolved := Array.replicate 196 none
  statics := none }

def pool19 : Array CpInfo := pool [(2, .class_ 4), (1, u "java/util/AbstractMap"), (0, u "<init>"), (0, u "()V"), (1, .class_ 10), (1, u "java/util/ImmutableCollections"), (3, .class_ 16), (1, u "java/util/ImmutableCollections$AbstractImmutableMap"), (2, .class_ 20), (0, u "java/io/Serializable")] 66

def k19m0 : Method := { name := "<init>", desc := "()V", sig := { parameters := [], returnType := none }, accessFlags := 0, code := none }
/-- java/util/ImmutableCollections$AbstractImmutableMap -/
def k19 : Class := { plain "java/util/ImmutableCollections$AbstractImmutableMap" (some 18) with
  accessFlags := 1056
  interfaces := #[4]
  cf := some (fileOf pool19 14 #[.nestHost 8] #[{ accessFlags := 0, nameIndex := 5, descriptorIndex := 6, attributes := #[] }] 1056 2 #[19] #[])
  fields := #[]
  methods := #[k19m0]
  instanceTypes := #[(.object "java/util/Set"), (.object "java/util/Collection")]
  staticTypes := #[]
  resolved := Array.replicate 87 none
  statics := none }

def pool20 : Array CpInfo := pool [(1, .class_ 2), (0, u "java/util/ImmutableCollections"), (1, .class_ 6), (1, u "java/util/ImmutableCollections$AbstractImmutableMap"), (10, .class_ 19), (1, u "java/util/ImmutableCollections$MapN"), (0, u "size"), (0, u "I"), (4, u "table"), (0, u "[Ljava/lang/Object;")] 121

/-- java/util/ImmutableCollections$MapN -/
def k20 : Class := { plain "java/util/ImmutableCollections$MapN" (some 19) with
  accessFlags := 48
  interfaces := #[]
  cf := some (fileOf pool20 17 #[.nestHost 1] #[] 48 4 #[] #[{ accessFlags := 16, nameIndex := 26, descriptorIndex := 27, attributes := #[] }, { accessFlags := 16, nameIndex := 20, descriptorIndex := 21, attributes := #[] }])
  fields := #[{ name := "table", type := (.array (.object "java/lang/Object")), accessFlags := 16, slot := 2, constantValue := 0 }, { name := "size", type := .int, accessFlags := 16, slot := 3, constantValue := 0 }]
  methods := #[]
  instanceTypes := #[(.object "java/util/Set"), (.object "java/util/Collection"), (.array (.object "java/lang/Object")), .int]
  staticTypes := #[]
  resolved := Array.replicate 149 none
  statics := none }

def pool21 : Array CpInfo := pool [(8, .class_ 10), (1, u "java/lang/Iterable"), (24, .class_ 36), (0, u "java/lang/Object")] 25

/-- java/lang/Iterable -/
def k21 : Class := { plain "java/lang/Iterable" (some 0) with
  accessFlags := 1537
  interfaces := #[]
  cf := some (fileOf pool21 8 #[] #[] 1537 35 #[] #[])
  fields := #[]
  methods := #[]
  instanceTypes := #[]
  staticTypes := #[]
  resolved := Array.replicate 62 none
  statics := none }

def pool22 : Array CpInfo := pool [(10, .class_ 12), (1, u "java/util/Collection"), (47, .class_ 61), (0, u "java/lang/Object"), (0, .class_ 63), (0, u "java/lang/Iterable")] 51

/-- java/util/Collection -/
def k22 : Class := { plain "java/util/Collection" (some 0) with
  accessFlags := 1537
  interfaces := #[21]
  cf := some (fileOf pool22 10 #[] #[] 1537 60 #[62] #[])
  fields := #[]
  methods := #[]
  instanceTypes := #[]
  staticTypes := #[]
  resolved := Array.replicate 115 none
  statics := none }

def pool23 : Array CpInfo := pool [(2, .class_ 4), (1, u "java/lang/Object"), (0, u "<init>"), (0, u "()V"), (1, .class_ 10), (1, u "java/util/AbstractCollection"), (66, .class_ 78), (0, u "java/util/Collection")] 81

def k23m0 : Method := { name := "<init>", desc := "()V", sig := { parameters := [], returnType := none }, accessFlags := 4, code := none }
/-- java/util/AbstractCollection -/
def k23 : Class := { plain "java/util/AbstractCollection" (some 0) with
  accessFlags := 1057
  interfaces := #[22]
  cf := some (fileOf pool23 8 #[] #[{ accessFlags := 4, nameIndex := 5, descriptorIndex := 6, attributes := #[] }] 1057 2 #[77] #[])
  fields := #[]
  methods := #[k23m0]
  instanceTypes := #[]
  staticTypes := #[]
  resolved := Array.replicate 160 none
  statics := none }

def pool24 : Array CpInfo := pool [(8, .class_ 10), (1, u "java/util/SequencedCollection"), (15, .class_ 27), (0, u "java/lang/Object"), (0, .class_ 29), (0, u "java/util/Collection")] 27

/-- java/util/SequencedCollection -/
def k24 : Class := { plain "java/util/SequencedCollection" (some 0) with
  accessFlags := 1537
  interfaces := #[22]
  cf := some (fileOf pool24 8 #[] #[] 1537 26 #[28] #[])
  fields := #[]
  methods := #[]
  instanceTypes := #[]
  staticTypes := #[]
  resolved := Array.replicate 57 none
  statics := none }

def pool25 : Array CpInfo := pool [(8, .class_ 10), (1, u "java/util/List"), (92, .class_ 104), (0, u "java/lang/Object"), (15, .class_ 121), (0, u "java/util/SequencedCollection")] 129

/-- java/util/List -/
def k25 : Class := { plain "java/util/List" (some 0) with
  accessFlags := 1537
  interfaces := #[24]
  cf := some (fileOf pool25 8 #[] #[] 1537 103 #[120] #[])
  fields := #[]
  methods := #[]
  instanceTypes := #[]
  staticTypes := #[]
  resolved := Array.replicate 251 none
  statics := none }

def pool26 : Array CpInfo := pool [(2, .class_ 4), (1, u "java/util/AbstractCollection"), (0, u "<init>"), (0, u "()V"), (1, .class_ 10), (1, u "java/util/AbstractList"), (0, u "modCount"), (0, u "I"), (64, .class_ 78), (0, u "java/util/AbstractList$Itr"), (3, .class_ 83), (0, u "java/util/AbstractList$ListItr"), (9, .class_ 94), (0, u "java/util/AbstractList$RandomAccessSubList"), (3, .class_ 99), (0, u "java/util/AbstractList$SubList"), (33, .class_ 134), (0, u "java/util/List"), (73, .class_ 209), (0, u "java/util/AbstractList$SubList$1"), (0, .class_ 211), (0, u "java/util/AbstractList$RandomAccessSpliterator")] 6

def k26m0 : Method := { name := "<init>", desc := "()V", sig := { parameters := [], returnType := none }, accessFlags := 4, code := none }
/-- java/util/AbstractList -/
def k26 : Class := { plain "java/util/AbstractList" (some 23) with
  accessFlags := 1057
  interfaces := #[25]
  cf := some (fileOf pool26 8 #[.nestMembers #[93, 98, 208, 210, 82, 77]] #[{ accessFlags := 4, nameIndex := 5, descriptorIndex := 6, attributes := #[] }] 1057 2 #[133] #[{ accessFlags := 132, nameIndex := 11, descriptorIndex := 12, attributes := #[] }])
  fields := #[{ name := "modCount", type := .int, accessFlags := 132, slot := 0, constantValue := 0 }]
  methods := #[k26m0]
  instanceTypes := #[.int]
  staticTypes := #[]
  resolved := Array.replicate 218 none
  statics := none }

def pool27 : Array CpInfo := pool [(1, .class_ 2), (0, u "java/util/RandomAccess"), (0, .class_ 4), (0, u "java/lang/Object")] 2

/-- java/util/RandomAccess -/
def k27 : Class := { plain "java/util/RandomAccess" (some 0) with
  accessFlags := 1537
  interfaces := #[]
  cf := some (fileOf pool27 1 #[] #[] 1537 3 #[] #[])
  fields := #[]
  methods := #[]
  instanceTypes := #[]
  staticTypes := #[]
  resolved := Array.replicate 7 none
  statics := none }

def pool28 : Array CpInfo := pool [(2, .class_ 4), (1, u "java/util/AbstractList"), (0, u "<init>"), (0, u "()V"), (1, .class_ 10), (1, u "java/util/Collections"), (54, .class_ 66), (0, u "java/util/Collections$EmptyList"), (0, .class_ 68), (0, u "java/util/RandomAccess"), (0, .class_ 70), (0, u "java/io/Serializable"), (0, u "serialVersionUID"), (0, u "J")] 77

def k28m0 : Method := { name := "<init>", desc := "()V", sig := { parameters := [], returnType := none }, accessFlags := 2, code := none }
/-- java/util/Collections$EmptyList -/
def k28 : Class := { plain "java/util/Collections$EmptyList" (some 26) with
  accessFlags := 32
  interfaces := #[27, 4]
  cf := some (fileOf pool28 65 #[.nestHost 8] #[{ accessFlags := 2, nameIndex := 5, descriptorIndex := 6, attributes := #[] }] 32 2 #[67, 69] #[{ accessFlags := 26, nameIndex := 71, descriptorIndex := 72, attributes := #[] }])
  fields := #[{ name := "serialVersionUID", type := .long, accessFlags := 26, slot := 0, constantValue := 0 }]
  methods := #[k28m0]
  instanceTypes := #[.int]
  staticTypes := #[.long]
  resolved := Array.replicate 150 none
  statics := none }

def pool29 : Array CpInfo := pool [(2, .class_ 4), (1, u "java/lang/StackTraceElement"), (0, u "<init>"), (2, .class_ 10), (1, u "java/lang/Object"), (0, u "()V"), (2, u "format"), (0, u "B"), (2, u "classLoaderName"), (0, u "Ljava/lang/String;"), (2, u "moduleName"), (2, u "moduleVersion"), (12, u "declaringClass"), (4, u "methodName"), (2, u "fileName"), (2, u "lineNumber"), (0, u "I"), (65, u "declaringClassObject"), (0, u "Ljava/lang/Class;"), (33, .class_ 153), (1, u "java/lang/StackTraceElement$HashedModules"), (17, .class_ 172), (0, u "java/io/Serializable"), (0, u "NATIVE_METHOD"), (1, u "UNKNOWN_SOURCE"), (2, u "BUILTIN_CLASS_LOADER"), (1, u "JDK_NON_UPGRADEABLE_MODULE"), (1, u "serialVersionUID"), (0, u "J")] 51

def k29m0 : Method := { name := "<init>", desc := "()V", sig := { parameters := [], returnType := none }, accessFlags := 2, code := none }
/-- java/lang/StackTraceElement -/
def k29 : Class := { plain "java/lang/StackTraceElement" (some 0) with
  accessFlags := 49
  interfaces := #[4]
  cf := some (fileOf pool29 2 #[.nestMembers #[151]] #[{ accessFlags := 2, nameIndex := 5, descriptorIndex := 11, attributes := #[] }] 49 8 #[171] #[{ accessFlags := 26, nameIndex := 173, descriptorIndex := 19, attributes := #[] }, { accessFlags := 26, nameIndex := 175, descriptorIndex := 19, attributes := #[] }, { accessFlags := 130, nameIndex := 116, descriptorIndex := 117, attributes := #[] }, { accessFlags := 2, nameIndex := 18, descriptorIndex := 19, attributes := #[] }, { accessFlags := 2, nameIndex := 22, descriptorIndex := 19, attributes := #[] }, { accessFlags := 2, nameIndex := 25, descriptorIndex := 19, attributes := #[] }, { accessFlags := 2, nameIndex := 38, descriptorIndex := 19, attributes := #[] }, { accessFlags := 2, nameIndex := 43, descriptorIndex := 19, attributes := #[] }, { accessFlags := 2, nameIndex := 46, descriptorIndex := 19, attributes := #[] }, { accessFlags := 2, nameIndex := 49, descriptorIndex := 50, attributes := #[] }, { accessFlags := 2, nameIndex := 14, descriptorIndex := 15, attributes := #[] }, { accessFlags := 26, nameIndex := 178, descriptorIndex := 15, attributes := #[] }, { accessFlags := 26, nameIndex := 180, descriptorIndex := 15, attributes := #[] }, { accessFlags := 26, nameIndex := 182, descriptorIndex := 183, attributes := #[] }])
  fields := #[{ name := "NATIVE_METHOD", type := (.object "java/lang/String"), accessFlags := 26, slot := 0, constantValue := 0 }, { name := "UNKNOWN_SOURCE", type := (.object "java/lang/String"), accessFlags := 26, slot := 1, constantValue := 0 }, { name := "declaringClassObject", type := (.object "java/lang/Class"), accessFlags := 130, slot := 0, constantValue := 0 }, { name := "classLoaderName", type := (.object "java/lang/String"), accessFlags := 2, slot := 1, constantValue := 0 }, { name := "moduleName", type := (.object "java/lang/String"), accessFlags := 2, slot := 2, constantValue := 0 }, { name := "moduleVersion", type := (.object "java/lang/String"), accessFlags := 2, slot := 3, constantValue := 0 }, { name := "declaringClass", type := (.object "java/lang/String"), accessFlags := 2, slot := 4, constantValue := 0 }, { name := "methodName", type := (.object "java/lang/String"), accessFlags := 2, slot := 5, constantValue := 0 }, { name := "fileName", type := (.object "java/lang/String"), accessFlags := 2, slot := 6, constantValue := 0 }, { name := "lineNumber", type := .int, accessFlags := 2, slot := 7, constantValue := 0 }, { name := "format", type := .byte, accessFlags := 2, slot := 8, constantValue := 0 }, { name := "BUILTIN_CLASS_LOADER", type := .byte, accessFlags := 26, slot := 2, constantValue := 0 }, { name := "JDK_NON_UPGRADEABLE_MODULE", type := .byte, accessFlags := 26, slot := 3, constantValue := 0 }, { name := "serialVersionUID", type := .long, accessFlags := 26, slot := 4, constantValue := 0 }]
  methods := #[k29m0]
  instanceTypes := #[(.object "java/lang/Class"), (.object "java/lang/String"), (.object "java/lang/String"), (.object "java/lang/String"), (.object "java/lang/String"), (.object "java/lang/String"), (.object "java/lang/String"), .int, .byte]
  staticTypes := #[(.object "java/lang/String"), (.object "java/lang/String"), .byte, .byte, .long]
  resolved := Array.replicate 235 none
  statics := none }

def pool30 : Array CpInfo := pool [(1, u "java/lang/Cloneable"), (0, .class_ 1), (0, u "java/lang/Object"), (0, .class_ 3)] 3

/-- java/lang/Cloneable -/
def k30 : Class := { plain "java/lang/Cloneable" (some 0) with
  accessFlags := 1537
  interfaces := #[]
  cf := some (fileOf pool30 2 #[] #[] 1537 4 #[] #[])
  fields := #[]
  methods := #[]
  instanceTypes := #[]
  staticTypes := #[]
  resolved := Array.replicate 8 none
  statics := none }

/-- the primitive byte -/
def k31 : Class := { plain "byte" none with kind := .primitive 'B', accessFlags := 0x411 }
/-- [B -/
def k32 : Class := { plain "[B" (some 0) with kind := .array 31 .byte, interfaces := #[30, 4], accessFlags := 1041 }

/-- the primitive int -/
def k33 : Class := { plain "int" none with kind := .primitive 'I', accessFlags := 0x411 }
/-- [I -/
def k34 : Class := { plain "[I" (some 0) with kind := .array 33 .int, interfaces := #[30, 4], accessFlags := 1041 }

/-- [Ljava/lang/Object; -/
def k35 : Class := { plain "[Ljava/lang/Object;" (some 0) with kind := .array 0 (.object "java/lang/Object"), interfaces := #[30, 4], accessFlags := 1041 }

/-- [Ljava/lang/StackTraceElement; -/
def k36 : Class := { plain "[Ljava/lang/StackTraceElement;" (some 0) with kind := .array 29 (.object "java/lang/StackTraceElement"), interfaces := #[30, 4], accessFlags := 1041 }

/-- [Ljava/lang/Throwable; -/
def k37 : Class := { plain "[Ljava/lang/Throwable;" (some 0) with kind := .array 5 (.object "java/lang/Throwable"), interfaces := #[30, 4], accessFlags := 1041 }

def heap : Heap := #[{ cls := 5, slots := #[.long 0, .ref 5, .ref 6, .null, .null, .null, .null, .ref 7, .int 1], vm := .statics 5 },
  { cls := 15, slots := #[.long 0, .int 0, .null, .null, .null, .null, .null, .ref 4, .int 0, .int 0], vm := .statics 15 },
  { cls := 17, slots := #[.int 0, .int 0, .int 0, .int 0, .int 0, .int 0, .int 0, .int 0, .null, .null, .ref 6, .null], vm := .statics 17 },
  { cls := 35, slots := #[], vm := .none },
  { cls := 20, slots := #[.null, .null, .ref 3, .int 0], vm := .none },
  { cls := 36, slots := #[], vm := .none },
  { cls := 28, slots := #[.int 0], vm := .none },
  { cls := 37, slots := #[], vm := .none }]
def classes : Array Class := #[k0, k1, k2, k3, k4, k5, k6, k7, k8, k9, k10, k11, k12, k13, k14, k15, k16, k17, k18, k19, k20, k21, k22, k23, k24, k25, k26, k27, k28, k29, k30, k31, k32, k33, k34, k35, k36, k37]
def interned : List (Array UInt16 × Addr) := []
def slotsUsed : Nat := 36
def theMethod : MethodId := ⟨1, 1⟩
def args0 : Array Value := #[.int 5, .long 6, .long 7, .long 8, .int 9]
def aboutOver (below : List Frame) : State where
  vm := { classes := classes, interned := interned.toArray }
  heap := heap
  slotsUsed := slotsUsed
  threads := #[{ frames := .invoking theMethod args0 :: below }]
def below0 : List Frame := [.native { method := ⟨0, 0⟩, args := #[] }]
def about1 : State := aboutOver below0
def p0 : Program := .bare "" "" ""
def e0 : Env := launch0.env 0 0 0
theorem w_frames : about1.frames = Frame.invoking theMethod args0 :: below0 := rfl
set_option maxRecDepth 65536 in
theorem w_args : argsFit about1.vm theMethod args0 = true := by decide +kernel
set_option maxRecDepth 65536 in
theorem w_heap : heapFits about1 = true := by decide +kernel
set_option maxRecDepth 65536 in
theorem w_runnable : about1.curStatus? = some .runnable := by decide +kernel
set_option maxRecDepth 65536 in
theorem w_alone : about1.alone = true := by decide +kernel
set_option maxRecDepth 65536 in
theorem w_named : about1.methodNamed? x = some theMethod := by decide +kernel
set_option maxRecDepth 65536 in
theorem w_hears : about1.hears theMethod below0 = true := by decide +kernel
set_option maxRecDepth 65536 in
theorem w_ripe : about1.ripe theMethod args0 below0 = true := by decide +kernel
theorem w_running : about1.status = .running := rfl
set_option maxRecDepth 65536 in
theorem w_room : about1.hasRoom e0.platform room_1 = true :=
  launch0.hasRoom_least _ room_1 (by decide +kernel) (by decide +kernel) (by decide +kernel) (by decide +kernel) (by decide +kernel) (by decide +kernel)
theorem allAtoms_all (ts : List Jvm.Cond) (a : Array Jvm.Value) (st : Jvm.State) : (allAtoms ts).before a st = ts.all (fun c => c.before a st) := by
  induction ts with
  | nil => rfl
  | cons c t ih =>
    show (Jvm.Cond.and c (allAtoms t)).before a st = _
    rw [Jvm.Cond.before_and, ih, List.all_cons]
def words1 : List Jvm.Cond := Jvm.Cond.code x code maxLocals ret :: tables_1
/-- a 'code' word, met by the world's own term for the bytes: nothing is compared byte by byte -/
theorem code_word {y : MethodName} {bytes : ByteArray} {mx : Nat} {rt : Option FieldType} {a : Array Value} {s : State} {m : MethodId} {meth : Method} {c : Code} (h1 : s.methodNamed? y = some m) (h2 : s.vm.method? m = some meth) (h3 : meth.code = some c) (h4 : c.code = bytes)
    (h5 : (c.maxLocals == mx && c.exceptionTable.isEmpty && decide (c.maxStack ≤ mostOperands) && decide (meth.sig.returnType = rt) && !meth.locks && decide (parseMethodDescriptor y.desc = some meth.sig)) = true) : (Jvm.Cond.code y bytes mx rt).before a s = true := by
  simp only [Bool.and_eq_true, beq_iff_eq, Bool.not_eq_true', decide_eq_true_eq] at h5
  obtain ⟨⟨⟨⟨⟨g1, g2⟩, g3⟩, g4⟩, g5⟩, g6⟩ := h5
  simp [Cond.before, Cond.holds, Cond.value, h1, h2, h3, h4, g1, g2, g3, g4, g5, g6]
def isCode : Jvm.Cond → Bool
  | .code _ _ _ _ => true
  | _ => false
theorem all_split {L : List Jvm.Cond} {P : Jvm.Cond → Bool} (h1 : L.all (fun c => isCode c || P c) = true) (h2 : ∀ c ∈ L.filter isCode, P c = true) : L.all P = true := by
  refine List.all_eq_true.mpr fun c hc => ?_
  have h := List.all_eq_true.mp h1 c hc
  rcases Bool.eq_false_or_eq_true (isCode c) with hi | hi
  · exact h2 c (List.mem_filter.mpr ⟨hc, hi⟩)
  · simpa [hi] using h
set_option maxRecDepth 65536 in
theorem w_c0 : (Jvm.Cond.code x code maxLocals ret).before args0 about1 = true := code_word (m := ⟨1, 1⟩) (meth := k1m1) (c := k1c1) (by decide +kernel) rfl rfl rfl (by decide +kernel)
set_option maxRecDepth 65536 in
theorem w_c1 : (Jvm.Cond.code ({ cls := "com/example/weighted_scheduler/weightedscheduler/HeapShare", name := "<init>", desc := "(J)V" } : Jvm.MethodName) prog_23_method_1_code (3 : Nat) (Option.none : Option Jvm.ClassFile.FieldType)).before args0 about1 = true := code_word (m := ⟨2, 0⟩) (meth := k2m0) (c := k2c0) (by decide +kernel) rfl rfl rfl (by decide +kernel)
set_option maxRecDepth 65536 in
theorem w_c2 : (Jvm.Cond.code ({ cls := "java/lang/Object", name := "<init>", desc := "()V" } : Jvm.MethodName) object_method_1_code (1 : Nat) (Option.none : Option Jvm.ClassFile.FieldType)).before args0 about1 = true := code_word (m := ⟨0, 0⟩) (meth := k0m0) (c := k0c0) (by decide +kernel) rfl rfl rfl (by decide +kernel)
set_option maxRecDepth 65536 in
theorem w_c3 : (Jvm.Cond.code ({ cls := "com/example/weighted_scheduler/weightedscheduler/RequestBody", name := "<init>", desc := "(JJLcom/example/weighted_scheduler/weightedscheduler/HeapShare;)V" } : Jvm.MethodName) prog_44_method_1_code (6 : Nat) (Option.none : Option Jvm.ClassFile.FieldType)).before args0 about1 = true := code_word (m := ⟨3, 0⟩) (meth := k3m0) (c := k3c0) (by decide +kernel) rfl rfl rfl (by decide +kernel)
set_option maxRecDepth 65536 in
theorem w_c4 : (Jvm.Cond.code ({ cls := "com/example/weighted_scheduler/weightedscheduler/ApiError", name := "<init>", desc := "(ILjava/lang/String;Ljava/lang/String;)V" } : Jvm.MethodName) prog_3_method_1_code (4 : Nat) (Option.none : Option Jvm.ClassFile.FieldType)).before args0 about1 = true := code_word (m := ⟨8, 0⟩) (meth := k8m0) (c := k8c0) (by decide +kernel) rfl rfl rfl (by decide +kernel)
set_option maxRecDepth 65536 in
theorem w_c5 : (Jvm.Cond.code ({ cls := "java/util/Map", name := "of", desc := "()Ljava/util/Map;" } : Jvm.MethodName) jdk_72_method_26_code (0 : Nat) (Option.some (Jvm.ClassFile.FieldType.object "java/util/Map"))).before args0 about1 = true := code_word (m := ⟨14, 0⟩) (meth := k14m0) (c := k14c0) (by decide +kernel) rfl rfl rfl (by decide +kernel)
set_option maxRecDepth 65536 in
theorem w_c6 : (Jvm.Cond.code ({ cls := "com/example/weighted_scheduler/weightedscheduler/ApiError", name := "<init>", desc := "(ILjava/lang/String;Ljava/lang/String;Ljava/util/Map;)V" } : Jvm.MethodName) prog_3_method_2_code (5 : Nat) (Option.none : Option Jvm.ClassFile.FieldType)).before args0 about1 = true := code_word (m := ⟨8, 1⟩) (meth := k8m1) (c := k8c1) (by decide +kernel) rfl rfl rfl (by decide +kernel)
set_option maxRecDepth 65536 in
theorem w_c7 : (Jvm.Cond.code ({ cls := "java/lang/RuntimeException", name := "<init>", desc := "(Ljava/lang/String;)V" } : Jvm.MethodName) jdk_58_method_2_code (2 : Nat) (Option.none : Option Jvm.ClassFile.FieldType)).before args0 about1 = true := code_word (m := ⟨7, 1⟩) (meth := k7m1) (c := k7c1) (by decide +kernel) rfl rfl rfl (by decide +kernel)
set_option maxRecDepth 65536 in
theorem w_c8 : (Jvm.Cond.code ({ cls := "java/lang/Exception", name := "<init>", desc := "(Ljava/lang/String;)V" } : Jvm.MethodName) jdk_59_method_2_code (2 : Nat) (Option.none : Option Jvm.ClassFile.FieldType)).before args0 about1 = true := code_word (m := ⟨6, 1⟩) (meth := k6m1) (c := k6c1) (by decide +kernel) rfl rfl rfl (by decide +kernel)
set_option maxRecDepth 65536 in
theorem w_c9 : (Jvm.Cond.code ({ cls := "java/lang/Throwable", name := "<init>", desc := "(Ljava/lang/String;)V" } : Jvm.MethodName) jdk_78_method_2_code (2 : Nat) (Option.none : Option Jvm.ClassFile.FieldType)).before args0 about1 = true := code_word (m := ⟨5, 1⟩) (meth := k5m1) (c := k5c1) (by decide +kernel) rfl rfl rfl (by decide +kernel)
set_option maxRecDepth 65536 in
theorem w_c10 : (Jvm.Cond.code ({ cls := "java/lang/Throwable", name := "<init>", desc := "()V" } : Jvm.MethodName) jdk_78_method_1_code (1 : Nat) (Option.none : Option Jvm.ClassFile.FieldType)).before args0 about1 = true := code_word (m := ⟨5, 0⟩) (meth := k5m0) (c := k5c0) (by decide +kernel) rfl rfl rfl (by decide +kernel)
set_option maxRecDepth 65536 in
theorem w_c11 : (Jvm.Cond.code ({ cls := "com/example/weighted_scheduler/weightedscheduler/RequestBody", name := "isWhole", desc := "()Z" } : Jvm.MethodName) prog_44_method_11_code (1 : Nat) (Option.some Jvm.ClassFile.FieldType.boolean)).before args0 about1 = true := code_word (m := ⟨3, 2⟩) (meth := k3m2) (c := k3c2) (by decide +kernel) rfl rfl rfl (by decide +kernel)
set_option maxRecDepth 65536 in
theorem w_c12 : (Jvm.Cond.code ({ cls := "com/example/weighted_scheduler/weightedscheduler/RequestBody", name := "refuse", desc := "(Lcom/example/weighted_scheduler/weightedscheduler/ApiError;)V" } : Jvm.MethodName) prog_44_method_6_code (2 : Nat) (Option.none : Option Jvm.ClassFile.FieldType)).before args0 about1 = true := code_word (m := ⟨3, 1⟩) (meth := k3m1) (c := k3c1) (by decide +kernel) rfl rfl rfl (by decide +kernel)
set_option maxRecDepth 65536 in
theorem w_c13 : (Jvm.Cond.code ({ cls := "java/lang/Math", name := "min", desc := "(JJ)J" } : Jvm.MethodName) jdk_29_method_70_code (4 : Nat) (Option.some Jvm.ClassFile.FieldType.long)).before args0 about1 = true := code_word (m := ⟨16, 1⟩) (meth := k16m1) (c := k16c1) (by decide +kernel) rfl rfl rfl (by decide +kernel)
def codes1 : List Jvm.Cond := [Jvm.Cond.code x code maxLocals ret, Jvm.Cond.code ({ cls := "com/example/weighted_scheduler/weightedscheduler/HeapShare", name := "<init>", desc := "(J)V" } : Jvm.MethodName) prog_23_method_1_code (3 : Nat) (Option.none : Option Jvm.ClassFile.FieldType), Jvm.Cond.code ({ cls := "java/lang/Object", name := "<init>", desc := "()V" } : Jvm.MethodName) object_method_1_code (1 : Nat) (Option.none : Option Jvm.ClassFile.FieldType), Jvm.Cond.code ({ cls := "com/example/weighted_scheduler/weightedscheduler/RequestBody", name := "<init>", desc := "(JJLcom/example/weighted_scheduler/weightedscheduler/HeapShare;)V" } : Jvm.MethodName) prog_44_method_1_code (6 : Nat) (Option.none : Option Jvm.ClassFile.FieldType), Jvm.Cond.code ({ cls := "com/example/weighted_scheduler/weightedscheduler/ApiError", name := "<init>", desc := "(ILjava/lang/String;Ljava/lang/String;)V" } : Jvm.MethodName) prog_3_method_1_code (4 : Nat) (Option.none : Option Jvm.ClassFile.FieldType), Jvm.Cond.code ({ cls := "java/util/Map", name := "of", desc := "()Ljava/util/Map;" } : Jvm.MethodName) jdk_72_method_26_code (0 : Nat) (Option.some (Jvm.ClassFile.FieldType.object "java/util/Map")), Jvm.Cond.code ({ cls := "com/example/weighted_scheduler/weightedscheduler/ApiError", name := "<init>", desc := "(ILjava/lang/String;Ljava/lang/String;Ljava/util/Map;)V" } : Jvm.MethodName) prog_3_method_2_code (5 : Nat) (Option.none : Option Jvm.ClassFile.FieldType), Jvm.Cond.code ({ cls := "java/lang/RuntimeException", name := "<init>", desc := "(Ljava/lang/String;)V" } : Jvm.MethodName) jdk_58_method_2_code (2 : Nat) (Option.none : Option Jvm.ClassFile.FieldType), Jvm.Cond.code ({ cls := "java/lang/Exception", name := "<init>", desc := "(Ljava/lang/String;)V" } : Jvm.MethodName) jdk_59_method_2_code (2 : Nat) (Option.none : Option Jvm.ClassFile.FieldType), Jvm.Cond.code ({ cls := "java/lang/Throwable", name := "<init>", desc := "(Ljava/lang/String;)V" } : Jvm.MethodName) jdk_78_method_2_code (2 : Nat) (Option.none : Option Jvm.ClassFile.FieldType), Jvm.Cond.code ({ cls := "java/lang/Throwable", name := "<init>", desc := "()V" } : Jvm.MethodName) jdk_78_method_1_code (1 : Nat) (Option.none : Option Jvm.ClassFile.FieldType), Jvm.Cond.code ({ cls := "com/example/weighted_scheduler/weightedscheduler/RequestBody", name := "isWhole", desc := "()Z" } : Jvm.MethodName) prog_44_method_11_code (1 : Nat) (Option.some Jvm.ClassFile.FieldType.boolean), Jvm.Cond.code ({ cls := "com/example/weighted_scheduler/weightedscheduler/RequestBody", name := "refuse", desc := "(Lcom/example/weighted_scheduler/weightedscheduler/ApiError;)V" } : Jvm.MethodName) prog_44_method_6_code (2 : Nat) (Option.none : Option Jvm.ClassFile.FieldType), Jvm.Cond.code ({ cls := "java/lang/Math", name := "min", desc := "(JJ)J" } : Jvm.MethodName) jdk_29_method_70_code (4 : Nat) (Option.some Jvm.ClassFile.FieldType.long)]
set_option maxRecDepth 65536 in
theorem codes_eq : words1.filter isCode = codes1 := rfl
theorem w_codes : ∀ c ∈ words1.filter isCode, c.before args0 about1 = true := by
  rw [codes_eq]
  intro c hc
  simp only [codes1, List.mem_cons, List.not_mem_nil, or_false] at hc
  rcases hc with rfl | rfl | rfl | rfl | rfl | rfl | rfl | rfl | rfl | rfl | rfl | rfl | rfl | rfl
  · exact w_c0
  · exact w_c1
  · exact w_c2
  · exact w_c3
  · exact w_c4
  · exact w_c5
  · exact w_c6
  · exact w_c7
  · exact w_c8
  · exact w_c9
  · exact w_c10
  · exact w_c11
  · exact w_c12
  · exact w_c13
set_option maxRecDepth 65536 in
theorem w_t1 : (words1.take 24).all (fun c => isCode c || c.before args0 about1) = true := by decide +kernel
set_option maxRecDepth 65536 in
theorem w_t2 : ((words1.drop 24).take 24).all (fun c => isCode c || c.before args0 about1) = true := by decide +kernel
set_option maxRecDepth 65536 in
theorem w_t3 : (((words1.drop 24).drop 24).take 24).all (fun c => isCode c || c.before args0 about1) = true := by decide +kernel
set_option maxRecDepth 65536 in
theorem w_t4 : ((((words1.drop 24).drop 24).drop 24).take 24).all (fun c => isCode c || c.before args0 about1) = true := by decide +kernel
set_option maxRecDepth 65536 in
theorem w_t5 : (((((words1.drop 24).drop 24).drop 24).drop 24).take 24).all (fun c => isCode c || c.before args0 about1) = true := by decide +kernel
set_option maxRecDepth 65536 in
theorem w_t6 : (((((words1.drop 24).drop 24).drop 24).drop 24).drop 24).all (fun c => isCode c || c.before args0 about1) = true := by decide +kernel
theorem w_tables : (allAtoms (Jvm.Cond.code x code maxLocals ret :: tables_1)).before args0 about1 = true := by
  rw [allAtoms_all]
  show words1.all (fun c => c.before args0 about1) = true
  refine all_split ?_ w_codes
  rw [← List.take_append_drop 24 words1, List.all_append, w_t1, ← List.take_append_drop 24 (words1.drop 24), List.all_append, w_t2, ← List.take_append_drop 24 ((words1.drop 24).drop 24), List.all_append, w_t3, ← List.take_append_drop 24 (((words1.drop 24).drop 24).drop 24), List.all_append, w_t4, ← List.take_append_drop 24 ((((words1.drop 24).drop 24).drop 24).drop 24), List.all_append, w_t5, w_t6]
  rfl
set_option maxRecDepth 65536 in
theorem w_rest : rest_1_c.before args0 about1 = true := by decide +kernel
set_option maxRecDepth 65536 in
theorem w_case : (Jvm.Cond.and given_1 narrow_1).before args0 about1 = true := by decide +kernel
theorem w_applies : (headSpec (Jvm.Cond.code x code maxLocals ret :: tables_1) room_1).applies x e0.platform about1 = true :=
  (Spec.applies_iff w_frames).mpr ⟨w_running, w_runnable, w_alone, w_named, w_hears, w_ripe, w_room, w_tables⟩
theorem atStart : AtStart classFile x code maxLocals ret World_1 tables_1 room_1 Calls_1 rest_1 Pre_1 launch0 p0 e0 about1 theMethod args0 below0 :=
  ⟨lists_1, trivial, launch0.admits_env _ _ _, launch0.least_env, fairChoices_fair.cas, fairChoices_fair.clock, w_frames, w_args, w_heap, w_applies, ⟨(by decide +kernel : framesKnown about1 = true), ⟨(by decide +kernel : tablesKnown about1 = true), trivial⟩⟩, w_rest, w_case⟩
end start1
theorem witness_1 : WitnessClaimed_1 := ⟨start1.p0, start1.e0, start1.about1, start1.theMethod, start1.args0, start1.below0, start1.atStart⟩
end Jvm.Pilot.@@N@@
