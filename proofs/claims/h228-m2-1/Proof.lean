import JvmDerived
import JvmDerived.Pilot.@@N@@Statement
import JvmDerived.Pilot.@@N@@Code
set_option linter.unusedVariables false
set_option linter.unusedSimpArgs false
@@BLOCK:NumsL.lean.txt@@
namespace Jvm.Pilot.@@N@@
open Jvm Jvm.ClassFile Sem Op Lib Jvm.Free Jvm.Stand Jvm.LawKit Jvm.RoadKit Bundle Jvm.Pilot.@@N@@.Jvm.D
/-- two roads that come together: the rest is shown once, for every state and value with which they come -/
theorem own_join {p : Program} {l : Launch} {e : Env} {R : Room} {s : State} {m : MethodId} {args : Array Value} {below : List Frame} {meth : Method} {c : Code} {T : State} {locs : List Loc} {cells slots n0 : Nat} {A : State} {P : State → Outcome → Prop}
    (X : Stand p l e R s m args below meth c T locs cells slots) (N : Fr n0 locs) {ι : Type} (Φ : ι → State → Prop) (B : ι → JFrame)
    (rest : ∀ i T' locs', Stand p l e R s m args below meth c T' locs' cells slots → Fr n0 locs' → Φ i T' → ∃ s₂ o, Steps p.tables e below (T'.setTop (B i)) s₂ ∧ P s₂ o)
    (come : (∀ i T' locs', Stand p l e R s m args below meth c T' locs' cells slots → Fr n0 locs' → Φ i T' → ∃ s₂ o, Steps p.tables e below (T'.setTop (B i)) s₂ ∧ P s₂ o) → ∃ s₂ o, Steps p.tables e below A s₂ ∧ P s₂ o) : ∃ s₂ o, Steps p.tables e below A s₂ ∧ P s₂ o := come rest
theorem own_joinH {p : Program} {l : Launch} {e : Env} {R : Room} {s : State} {m : MethodId} {args : Array Value} {below : List Frame} {meth : Method} {c : Code} {T : State} {locs : List Loc} {cells slots n0 : Nat} {A : State} {P : State → Outcome → Prop}
    (X : Stand p l e R s m args below meth c T locs cells slots) (N : Fr n0 locs) {ι : Type} (cells' slots' : Nat) (Φ : ι → Heap → Prop) (B : ι → JFrame)
    (rest : ∀ i T' locs', Stand p l e R s m args below meth c T' locs' cells' slots' → Fr n0 locs' → Φ i T'.heap → ∃ s₂ o, Steps p.tables e below (T'.setTop (B i)) s₂ ∧ P s₂ o)
    (come : (∀ i T' locs', Stand p l e R s m args below meth c T' locs' cells' slots' → Fr n0 locs' → Φ i T'.heap → ∃ s₂ o, Steps p.tables e below (T'.setTop (B i)) s₂ ∧ P s₂ o) → ∃ s₂ o, Steps p.tables e below A s₂ ∧ P s₂ o) : ∃ s₂ o, Steps p.tables e below A s₂ ∧ P s₂ o := come rest
theorem own_mono {p : Program} {l : Launch} {e : Env} {R : Room} {s : State} {m : MethodId} {args : Array Value} {below : List Frame} {meth : Method} {c : Code} {T : State} {locs : List Loc} {cells slots cells' slots' : Nat}
    (X : Stand p l e R s m args below meth c T locs cells slots) (h1 : cells ≤ cells') (h2 : slots ≤ slots') : Stand p l e R s m args below meth c T locs cells' slots' := { X with same := X.same.mono h1 h2 }
theorem own_sta_keep {Z : State} {h h' : Heap} {C n d : String} {v : Value} {ws : List Addr} (F : Sta Z h C n d v) (K : Keep h h' ws) (q : ∀ x ∈ ws, ∀ c : Cell, h[x]? = some c → c.vm.isStatics = false) : Sta Z h' C n d v := by
  obtain ⟨cf, i, k, f, st, cell, h1, h2, h3, h4, h5, h6, h7⟩ := F
  refine ⟨cf, i, k, f, st, cell, h1, h2, h3, h4, K.2.1 st cell h5 fun hm => ?_, h6, h7⟩
  rw [q st hm cell h5] at h6
  cases h6
theorem own_arr_keep {Z : State} {h h' : Heap} {a : Addr} {c : Cell} {ty : FieldType} {ws : List Addr} (F : Arr Z h a c ty) (K : Keep h h' ws) (q : a ∉ ws) : Arr Z h' a c ty := ⟨K.2.1 _ _ F.1 q, F.2⟩
theorem own_plain_E {Z : State} {h : Heap} {a : Addr} {C : String} (F : Exa Z h a C) : ∀ c : Cell, h[a]? = some c → c.vm.isStatics = false := by
  obtain ⟨cell, k, h1, h2, h3, h4, h5⟩ := F
  intro c hc
  cases h1.symm.trans hc
  exact h4
theorem own_plain_V {Z : State} {h : Heap} {a : Addr} {k : ClassId} {ty : FieldType} {n : Int32} {vs : List Value} {d : Value} (F : Arv Z h a k ty n vs d) : ∀ c : Cell, h[a]? = some c → c.vm.isStatics = false := by
  obtain ⟨cell, A, -⟩ := F
  intro c hc
  cases A.1.symm.trans hc
  exact A.plain
/-- a stretch of the road, then the rest -/
theorem own_go {tb : Tables} {e : Env} {below : List Frame} {A B : State} {P : State → Outcome → Prop} (h : ∀ t, Steps tb e below B t → Steps tb e below A t) (k : ∃ s₂ o, Steps tb e below B s₂ ∧ P s₂ o) : ∃ s₂ o, Steps tb e below A s₂ ∧ P s₂ o := by
  obtain ⟨s₂, o, h1, h2⟩ := k
  exact ⟨s₂, o, h s₂ h1, h2⟩
theorem own_eqI {args : Array Value} {first s : State} {o : Option Outcome} {idx : List Nat} {t : Term} {k : Int32} (h : (Jvm.Cond.eq t (.int k)).value args first o s idx = some true) : t.eval args first o idx s = some (.int k) := by
  simp only [Jvm.Cond.value, Term.eval] at h
  cases ht : t.eval args first o idx s with
  | none => simp [ht] at h
  | some x => cases x <;> simp [ht] at h ⊢; exact h
theorem own_eqJ {args : Array Value} {first s : State} {o : Option Outcome} {idx : List Nat} {t : Term} {k : Int64} (h : (Jvm.Cond.eq t (.long k)).value args first o s idx = some true) : t.eval args first o idx s = some (.long k) := by
  simp only [Jvm.Cond.value, Term.eval] at h
  cases ht : t.eval args first o idx s with
  | none => simp [ht] at h
  | some x => cases x <;> simp [ht] at h ⊢; exact h
theorem own_eqR {args : Array Value} {first s : State} {o : Option Outcome} {idx : List Nat} {t u : Term} {a : Addr} (h : (Jvm.Cond.eq t u).value args first o s idx = some true) (hu : u.eval args first o idx s = some (.ref a)) : t.eval args first o idx s = some (.ref a) := by
  simp only [Jvm.Cond.value] at h
  cases ht : t.eval args first o idx s with
  | none => simp [ht] at h
  | some x => cases x <;> simp [ht, hu] at h ⊢; exact h
def own_fd (x y : Int64) : Int64 := if (x ^^^ y) < (0 : Int64) then (if ((x / y) * y) = x then (x / y) else ((x / y) - (1 : Int64))) else (x / y)
theorem own_xneg {x y : Int64} (hy : 0 ≤ y.toInt) : (x ^^^ y) < (0 : Int64) ↔ x.toInt < 0 := by
  have e : ∀ z : Int64, (z < (0 : Int64)) ↔ z.toBitVec.msb = true := fun z => by
    rw [Int64.lt_iff_toInt_lt]
    show z.toBitVec.toInt < 0 ↔ _
    rw [BitVec.msb_eq_toInt]
    simp
  rw [e, Int64.toBitVec_xor, BitVec.msb_xor]
  have h1 : y.toBitVec.msb = false := by
    rw [BitVec.msb_eq_toInt]
    simpa using hy
  have h2 : x.toBitVec.msb = decide (x.toInt < 0) := BitVec.msb_eq_toInt
  rw [h1, h2]
  simp
theorem own_fd_int {x y : Int64} (hy : 0 < y.toInt) (hb1 : -4611686018427387904 ≤ x.toInt) (hb2 : x.toInt ≤ 4611686018427387904) : (own_fd x y).toInt = x.toInt / y.toInt := by
  have hq : (x / y).toInt = x.toInt.tdiv y.toInt := Jvm.Kit.i64_div (by omega)
  have h1 : (1 : Int64).toInt = 1 := rfl
  show (if (x ^^^ y) < (0 : Int64) then (if ((x / y) * y) = x then (x / y) else ((x / y) - (1 : Int64))) else (x / y)).toInt = _
  by_cases c : (x ^^^ y) < (0 : Int64)
  · rw [if_pos c]
    have hn := (own_xneg (Int.le_of_lt hy)).mp c
    obtain ⟨a, ha⟩ : ∃ a : Int, x.toInt = -a := ⟨-x.toInt, by omega⟩
    obtain ⟨b, hb⟩ : ∃ b : Int, y.toInt = b := ⟨_, rfl⟩
    have ht : x.toInt.tdiv y.toInt = -(a / b) := by rw [ha, hb, Int.neg_tdiv, Int.tdiv_eq_ediv_of_nonneg (by omega)]
    have hm := Int.mul_ediv_add_emod a b
    have hr1 := Int.emod_nonneg a (b := b) (by omega)
    have hr2 := Int.emod_lt_of_pos a (b := b) (by omega)
    have hd0 : 0 ≤ a / b := Int.ediv_nonneg (by omega) (by omega)
    have hd1 : a / b ≤ a := Int.ediv_le_self b (by omega)
    have hpm : ((x / y) * y).toInt = -(b * (a / b)) := by
      have e1 : (x / y).toInt * y.toInt = -(b * (a / b)) := by rw [hq, ht, hb, Int.neg_mul, Int.mul_comm]
      rw [Jvm.Kit.i64_mul (by rw [e1]; omega) (by rw [e1]; have := Int.mul_nonneg (a := b) (by omega) hd0; omega), e1]
    by_cases d : ((x / y) * y) = x
    · rw [if_pos d, hq, ht, ha, hb]
      rw [← Int64.toInt_inj, hpm, ha] at d
      symm
      refine ((Int.ediv_emod_unique (a := -a) (b := b) (r := 0) (q := -(a / b)) (by omega)).mpr ⟨?_, by omega, by omega⟩).1
      rw [Int.mul_neg]; omega
    · rw [if_neg d]
      rw [← Int64.toInt_inj, hpm, ha] at d
      rw [Jvm.Kit.i64_sub (by rw [hq, ht, h1]; omega) (by rw [hq, ht, h1]; omega), hq, ht, h1, ha, hb]
      symm
      refine ((Int.ediv_emod_unique (a := -a) (b := b) (r := b - a % b) (q := -(a / b) - 1) (by omega)).mpr ⟨?_, by omega, by omega⟩).1
      rw [Int.mul_sub, Int.mul_neg, Int.mul_one]; omega
  · rw [if_neg c, hq]
    have hn : 0 ≤ x.toInt := Int.not_lt.mp fun q => c ((own_xneg (Int.le_of_lt hy)).mpr q)
    exact Int.tdiv_eq_ediv_of_nonneg hn
/-- the window's start, as a number -/
theorem own_start {t w : Int64} (hw : 1000 ≤ w.toInt ∧ w.toInt ≤ 2147483647000) (h1 : -4611686018427387904 ≤ t.toInt) (h2 : t.toInt ≤ 4611686018427387904) : (own_fd t w * w).toInt = t.toInt - t.toInt % w.toInt := by
  have hf := own_fd_int (x := t) (y := w) (by omega) h1 h2
  have hm := Int.mul_ediv_add_emod t.toInt w.toInt
  have hr1 := Int.emod_nonneg t.toInt (b := w.toInt) (by omega)
  have hr2 := Int.emod_lt_of_pos t.toInt (b := w.toInt) (by omega)
  have e : (own_fd t w).toInt * w.toInt = t.toInt - t.toInt % w.toInt := by rw [hf, Int.mul_comm]; omega
  rw [Jvm.Kit.i64_mul (by rw [e]; omega) (by rw [e]; omega), e]
def own_we (t w : Int64) : Int64 := if (t - (t / w) * w) < (0 : Int64) then ((t - ((t - (t / w) * w) + w)) + w) else ((t - (t - (t / w) * w)) + w)
theorem own_we_int {t w : Int64} (hw : 1000 ≤ w.toInt ∧ w.toInt ≤ 2147483647000) (h1 : -4611686018427387904 ≤ t.toInt) (h2 : t.toInt ≤ 4611686018427387904) : (own_we t w).toInt = t.toInt - t.toInt % w.toInt + w.toInt := by
  have hr := Jvm.Kit.i64_rem t w
  have h0 : (0 : Int64).toInt = 0 := rfl
  have hr1 := Int.emod_nonneg t.toInt (b := w.toInt) (by omega)
  have hr2 := Int.emod_lt_of_pos t.toInt (b := w.toInt) (by omega)
  have ht : t.toInt.tmod w.toInt = t.toInt % w.toInt ∨ (t.toInt.tmod w.toInt = t.toInt % w.toInt - w.toInt ∧ t.toInt < 0) := by
    rw [Int.tmod_eq_emod]
    split
    · left; omega
    · right; rw [Int.natAbs_of_nonneg (by omega)]; omega
  show (if (t - (t / w) * w) < (0 : Int64) then ((t - ((t - (t / w) * w) + w)) + w) else ((t - (t - (t / w) * w)) + w)).toInt = _
  generalize (t - (t / w) * w) = r at hr
  by_cases c : r < (0 : Int64)
  · rw [if_pos c]
    rw [Int64.lt_iff_toInt_lt, h0] at c
    have e1 : (r + w).toInt = r.toInt + w.toInt := Jvm.Kit.i64_add (by omega) (by omega)
    have e2 : (t - (r + w)).toInt = t.toInt - (r + w).toInt := Jvm.Kit.i64_sub (by omega) (by omega)
    rw [Jvm.Kit.i64_add (by omega) (by omega), e2, e1]
    omega
  · rw [if_neg c]
    rw [Int64.lt_iff_toInt_lt, h0] at c
    have e2 : (t - r).toInt = t.toInt - r.toInt := Jvm.Kit.i64_sub (by omega) (by omega)
    rw [Jvm.Kit.i64_add (by omega) (by omega), e2]
    rcases ht with q | q
    · omega
    · omega
theorem own_same {t w : Int64} (hw : 1000 ≤ w.toInt ∧ w.toInt ≤ 2147483647000) (h1 : -4611686018427387904 ≤ t.toInt) (h2 : t.toInt ≤ 4611686018427387904) : own_fd t w * w + w = own_we t w := by
  have hs := own_start hw h1 h2
  have hr1 := Int.emod_nonneg t.toInt (b := w.toInt) (by omega)
  have hr2 := Int.emod_lt_of_pos t.toInt (b := w.toInt) (by omega)
  rw [← Int64.toInt_inj, own_we_int hw h1 h2, Jvm.Kit.i64_add (by omega) (by omega), hs]
/-- what is left of the window -/
theorem own_left {t w : Int64} (hw : 1000 ≤ w.toInt ∧ w.toInt ≤ 2147483647000) (h1 : -4611686018427387904 ≤ t.toInt) (h2 : t.toInt ≤ 4611686018427387904) : 0 < ((own_fd t w * w + w) - t).toInt ∧ ((own_fd t w * w + w) - t).toInt ≤ 2147483647000 := by
  have hs := own_start hw h1 h2
  have hr1 := Int.emod_nonneg t.toInt (b := w.toInt) (by omega)
  have hr2 := Int.emod_lt_of_pos t.toInt (b := w.toInt) (by omega)
  have e := Jvm.Kit.i64_add (x := own_fd t w * w) (y := w) (by omega) (by omega)
  rw [Jvm.Kit.i64_sub (by omega) (by omega), e, hs]
  omega
/-- Duration.ofMillis of a small positive number: no borrow, no zero -/
theorem own_ms {x : Int64} (h1 : 0 < x.toInt) (h2 : x.toInt ≤ 2147483647000) : ¬ (((x - (x / (1000 : Int64)) * (1000 : Int64)).toInt32) < (0 : Int32)) ∧ ¬ (((x / (1000 : Int64)) ||| ((((x - (x / (1000 : Int64)) * (1000 : Int64)).toInt32) * (1000000 : Int32)).toInt64)) = (0 : Int64)) ∧ ¬ ((x / (1000 : Int64)) < (0 : Int64)) := by
  have hp : (1000 : Int64).toInt = 1000 := rfl
  have h0 : (0 : Int64).toInt = 0 := rfl
  have h00 : (0 : Int32).toInt = 0 := rfl
  have hm : (1000000 : Int32).toInt = 1000000 := rfl
  have hd : (x / (1000 : Int64)).toInt = x.toInt / 1000 := by
    rw [Jvm.Kit.i64_div (by omega), hp]; exact Int.tdiv_eq_ediv_of_nonneg (by omega)
  have hr : (x - (x / (1000 : Int64)) * (1000 : Int64)).toInt = x.toInt % 1000 := by
    rw [Jvm.Kit.i64_rem, hp]; exact Int.tmod_eq_emod_of_nonneg (by omega)
  have hi := Jvm.Kit.i32_of_i64 (x := (x - (x / (1000 : Int64)) * (1000 : Int64))) (by omega) (by omega)
  rw [hr] at hi
  refine ⟨?_, ?_, ?_⟩
  · rw [Int32.lt_iff_toInt_lt, hi, h00]; omega
  · intro q
    have q2 : (x / (1000 : Int64)) = 0 ∧ ((((x - (x / (1000 : Int64)) * (1000 : Int64)).toInt32) * (1000000 : Int32)).toInt64) = 0 := by
      simp only [← Int64.toBitVec_inj, Int64.toBitVec_or] at q ⊢
      exact BitVec.or_eq_zero_iff.mp q
    have a1 := congrArg Int64.toInt q2.1
    have a2 := congrArg Int64.toInt q2.2
    rw [hd, h0] at a1
    rw [Int32.toInt_toInt64, Jvm.Kit.i32_mul (by rw [hi, hm]; omega) (by rw [hi, hm]; omega), hi, hm, h0] at a2
    omega
  · rw [Int64.lt_iff_toInt_lt, hd, h0]; omega
theorem own_strs {Z : State} {a0 : Array Value} (hw : ∀ d ∈ tables_1, d.before a0 Z = true) : ∀ a ∈ Bundle.stringAtoms, a.before a0 Z = true := by
  intro d hd
  simp only [Bundle.stringAtoms, List.mem_cons, List.not_mem_nil, or_false] at hd
  rcases hd with rfl | rfl | rfl | rfl | rfl | rfl | rfl
  · exact hw _ (List.mem_of_getElem? (i := 15) rfl)
  · exact hw _ (List.mem_of_getElem? (i := 16) rfl)
  · exact hw _ (List.mem_of_getElem? (i := 17) rfl)
  · exact hw _ (List.mem_of_getElem? (i := 18) rfl)
  · exact hw _ (List.mem_of_getElem? (i := 19) rfl)
  · exact hw _ (List.mem_of_getElem? (i := 20) rfl)
  · exact hw _ (List.mem_of_getElem? (i := 21) rfl)
theorem ef_rn2 (m : MethodId) (r0 : Addr) (r1 : Addr) : entryFrame m #[(.ref r0), (.ref r1)] 2 = mkF m 0 #[.val (.ref r0), .val (.ref r1)] [] := by first | (simp [entryFrame, mkF, argsToLocals, Value.category]; done) | rfl
theorem pn_6 : plainName "java/util/Objects" = true := by first | (simp [plainName, overriddenIn]; done) | decide +kernel
abbrev LS_RR (a0 : Addr) (a1 : Addr) : Array Slot := #[.val (.ref a0), .val (.ref a1)]
theorem d6_0 : decode jdk_31_method_11_code 0 = .ok (.aload_n 0, 1) := by decide +kernel
theorem d6_1 : decode jdk_31_method_11_code 1 = .ok (.ifnonnull 12, 3) := by decide +kernel
theorem d6_13 : decode jdk_31_method_11_code 13 = .ok (.aload_n 0, 1) := by decide +kernel
theorem d6_14 : decode jdk_31_method_11_code 14 = .ok (.areturn, 1) := by decide +kernel
def Qrn2 (Z : State) (r0 : Addr) (r1 : Addr) (h0 : Heap) (n0 : Nat) (v : Option Value) (h : Heap) (L : List Loc) : Prop := v = some (.ref r0) ∧ Fr n0 L ∧ h = h0
set_option maxRecDepth 65536 in
set_option maxHeartbeats 40000000 in
theorem rmrn2 (l : Launch) (Z : State) (a0 : Array Value) (hw : ∀ d ∈ tables_1, d.before a0 Z = true) (ws : List Jvm.Cond) (r0 : Addr) (r1 : Addr) (h0 : Heap) (n0 : Nat) (Z0 : n0 ≤ h0.size) :
    MetFree l (⟨"java/util/Objects", "requireNonNull", "(Ljava/lang/Object;Ljava/lang/String;)Ljava/lang/Object;"⟩ : MethodName) (head1 (Jvm.Cond.code (⟨"java/util/Objects", "requireNonNull", "(Ljava/lang/Object;Ljava/lang/String;)Ljava/lang/Object;"⟩ : MethodName) jdk_31_method_11_code 2 (some (.object "java/lang/Object")) :: ws) ({ frames := 0, cells := 0, slots := 0, locals := 0 } : Room)) (fun a U => a = #[(.ref r0), (.ref r1)] ∧ Z.Warmed39 U.vm ∧ U.heap = h0) (fun _ _ _ _ _ => True) (fun _ U o U' => ∃ v L, o = .returned v ∧ Qrn2 Z r0 r1 h0 n0 v U'.heap L ∧ FrameEnd U o U' L ({ frames := 0, cells := 0, slots := 0, locals := 0 } : Room).cells ({ frames := 0, cells := 0, slots := 0, locals := 0 } : Room).slots) := by
  refine MetFree.of_bodySF (plainFor_of_name pn_6) hisR ?_
  intro p e s m args below meth c s₁ Bd hml0 hP hK
  obtain ⟨rfl, hZ, hh⟩ := hP
  have hx := Bd.exec
  have hby := Bd.bytes
  have hml : c.maxLocals = 2 := hml0
  have hown : s.vm.findClass "java/util/Objects" = some m.cls := findClass_of_methodNamed Bd.named
  have hnm := (name_of_methodNamed Bd.named Bd.method).1
  have X0 : Stand p l e ({ frames := 0, cells := 0, slots := 0, locals := 0 } : Room) s m #[(.ref r0), (.ref r1)] below meth c s₁ [] 0 0 := Stand.of_body Bd
  have e0 : s₁.heap = h0 := by rw [← hh, Bd.state]; rfl
  have N0 := Fr.nil n0
  refine own_go (B := s₁.setTop (mkF m 0 (LS_RR r0 r1) [])) (fun t k => castTop (ef_rn2 m r0 r1) k) ?_
  refine own_go (B := s₁.setTop (mkF m 14 (LS_RR r0 r1) [(.ref r0)])) (fun t k => ?_) ?_
  · show Steps p.tables e below (s₁.setTop (mkF m 0 (LS_RR r0 r1) [])) _
    refine XS.aloadN X0.here hx rfl (hb hby d6_0) rfl rfl ?_
    show Steps p.tables e below (s₁.setTop (mkF m 1 (LS_RR r0 r1) [(.ref r0)])) _
    refine XS.ifnonnullYes X0.here hx rfl (pc0 := 1) (pc' := 13) rfl (hb hby d6_1) rfl (by decide) (by decide) ?_
    show Steps p.tables e below (s₁.setTop (mkF m 13 (LS_RR r0 r1) [])) _
    refine XS.aloadN X0.here hx rfl (hb hby d6_13) rfl rfl ?_
    exact k
  obtain ⟨fs, hr, hrun, hended, hW, hsame⟩ := X0.leave (v := some (.ref r0)) (fun h => by rw [Bd.returns] at h; cases h)
  refine ⟨_, _, ?_, hrun, hended, _, _, rfl, ?_, ⟨_, rfl⟩, hW, hsame.mono (by decide) (by decide)⟩
  · show Steps p.tables e below (s₁.setTop (mkF m 14 (LS_RR r0 r1) [(.ref r0)])) _
    exact retOut X0 hx Bd.returns rfl (Or.inr (Or.inr (Or.inr (Or.inr ⟨rfl, rfl, rfl⟩)))) (hb hby d6_14) hr
  · show Qrn2 Z r0 r1 h0 n0 _ s₁.heap _
    rw [e0]
    exact ⟨rfl, N0, rfl⟩
theorem ef_rn1 (m : MethodId) (r0 : Addr) : entryFrame m #[(.ref r0)] 1 = mkF m 0 #[.val (.ref r0)] [] := by first | (simp [entryFrame, mkF, argsToLocals, Value.category]; done) | rfl
theorem pn_15 : plainName "java/util/Objects" = true := by first | (simp [plainName, overriddenIn]; done) | decide +kernel
abbrev LS_R (a0 : Addr) : Array Slot := #[.val (.ref a0)]
theorem d15_0 : decode jdk_31_method_10_code 0 = .ok (.aload_n 0, 1) := by decide +kernel
theorem d15_1 : decode jdk_31_method_10_code 1 = .ok (.ifnonnull 11, 3) := by decide +kernel
theorem d15_12 : decode jdk_31_method_10_code 12 = .ok (.aload_n 0, 1) := by decide +kernel
theorem d15_13 : decode jdk_31_method_10_code 13 = .ok (.areturn, 1) := by decide +kernel
def Qrn1 (Z : State) (r0 : Addr) (h0 : Heap) (n0 : Nat) (v : Option Value) (h : Heap) (L : List Loc) : Prop := v = some (.ref r0) ∧ Fr n0 L ∧ h = h0
set_option maxRecDepth 65536 in
set_option maxHeartbeats 40000000 in
theorem rmrn1 (l : Launch) (Z : State) (a0 : Array Value) (hw : ∀ d ∈ tables_1, d.before a0 Z = true) (ws : List Jvm.Cond) (r0 : Addr) (h0 : Heap) (n0 : Nat) (Z0 : n0 ≤ h0.size) :
    MetFree l (⟨"java/util/Objects", "requireNonNull", "(Ljava/lang/Object;)Ljava/lang/Object;"⟩ : MethodName) (head1 (Jvm.Cond.code (⟨"java/util/Objects", "requireNonNull", "(Ljava/lang/Object;)Ljava/lang/Object;"⟩ : MethodName) jdk_31_method_10_code 1 (some (.object "java/lang/Object")) :: ws) ({ frames := 0, cells := 0, slots := 0, locals := 0 } : Room)) (fun a U => a = #[(.ref r0)] ∧ Z.Warmed39 U.vm ∧ U.heap = h0) (fun _ _ _ _ _ => True) (fun _ U o U' => ∃ v L, o = .returned v ∧ Qrn1 Z r0 h0 n0 v U'.heap L ∧ FrameEnd U o U' L ({ frames := 0, cells := 0, slots := 0, locals := 0 } : Room).cells ({ frames := 0, cells := 0, slots := 0, locals := 0 } : Room).slots) := by
  refine MetFree.of_bodySF (plainFor_of_name pn_15) hisR ?_
  intro p e s m args below meth c s₁ Bd hml0 hP hK
  obtain ⟨rfl, hZ, hh⟩ := hP
  have hx := Bd.exec
  have hby := Bd.bytes
  have hml : c.maxLocals = 1 := hml0
  have hown : s.vm.findClass "java/util/Objects" = some m.cls := findClass_of_methodNamed Bd.named
  have hnm := (name_of_methodNamed Bd.named Bd.method).1
  have X0 : Stand p l e ({ frames := 0, cells := 0, slots := 0, locals := 0 } : Room) s m #[(.ref r0)] below meth c s₁ [] 0 0 := Stand.of_body Bd
  have e0 : s₁.heap = h0 := by rw [← hh, Bd.state]; rfl
  have N0 := Fr.nil n0
  refine own_go (B := s₁.setTop (mkF m 0 (LS_R r0) [])) (fun t k => castTop (ef_rn1 m r0) k) ?_
  refine own_go (B := s₁.setTop (mkF m 13 (LS_R r0) [(.ref r0)])) (fun t k => ?_) ?_
  · show Steps p.tables e below (s₁.setTop (mkF m 0 (LS_R r0) [])) _
    refine XS.aloadN X0.here hx rfl (hb hby d15_0) rfl rfl ?_
    show Steps p.tables e below (s₁.setTop (mkF m 1 (LS_R r0) [(.ref r0)])) _
    refine XS.ifnonnullYes X0.here hx rfl (pc0 := 1) (pc' := 12) rfl (hb hby d15_1) rfl (by decide) (by decide) ?_
    show Steps p.tables e below (s₁.setTop (mkF m 12 (LS_R r0) [])) _
    refine XS.aloadN X0.here hx rfl (hb hby d15_12) rfl rfl ?_
    exact k
  obtain ⟨fs, hr, hrun, hended, hW, hsame⟩ := X0.leave (v := some (.ref r0)) (fun h => by rw [Bd.returns] at h; cases h)
  refine ⟨_, _, ?_, hrun, hended, _, _, rfl, ?_, ⟨_, rfl⟩, hW, hsame.mono (by decide) (by decide)⟩
  · show Steps p.tables e below (s₁.setTop (mkF m 13 (LS_R r0) [(.ref r0)])) _
    exact retOut X0 hx Bd.returns rfl (Or.inr (Or.inr (Or.inr (Or.inr ⟨rfl, rfl, rfl⟩)))) (hb hby d15_13) hr
  · show Qrn1 Z r0 h0 n0 _ s₁.heap _
    rw [e0]
    exact ⟨rfl, N0, rfl⟩
theorem ef_rec (m : MethodId) (r0 : Addr) : entryFrame m #[(.ref r0)] 1 = mkF m 0 #[.val (.ref r0)] [] := by first | (simp [entryFrame, mkF, argsToLocals, Value.category]; done) | rfl
theorem pn_4 : plainName "java/lang/Record" = true := by first | (simp [plainName, overriddenIn]; done) | decide +kernel
theorem d4_0 : decode jdk_30_method_1_code 0 = .ok (.aload_n 0, 1) := by decide +kernel
theorem d4_1 : decode jdk_30_method_1_code 1 = .ok (.invokespecial 1, 3) := by decide +kernel
theorem d4_4 : decode jdk_30_method_1_code 4 = .ok (.return_, 1) := by decide +kernel
def Qrec (Z : State) (r0 : Addr) (h0 : Heap) (n0 : Nat) (v : Option Value) (h : Heap) (L : List Loc) : Prop := v = none ∧ Fr n0 L ∧ h = h0
set_option maxRecDepth 65536 in
set_option maxHeartbeats 40000000 in
theorem rmrec (l : Launch) (Z : State) (a0 : Array Value) (hw : ∀ d ∈ tables_1, d.before a0 Z = true) (ws : List Jvm.Cond) (r0 : Addr) (h0 : Heap) (n0 : Nat) (Z0 : n0 ≤ h0.size) :
    MetFree l (⟨"java/lang/Record", "<init>", "()V"⟩ : MethodName) (head1 (Jvm.Cond.code (⟨"java/lang/Record", "<init>", "()V"⟩ : MethodName) jdk_30_method_1_code 1 none :: ws) ({ frames := 1, cells := 0, slots := 0, locals := 12 } : Room)) (fun a U => a = #[(.ref r0)] ∧ Z.Warmed39 U.vm ∧ U.heap = h0) (fun _ _ _ _ _ => True) (fun _ U o U' => ∃ v L, o = .returned v ∧ Qrec Z r0 h0 n0 v U'.heap L ∧ FrameEnd U o U' L ({ frames := 1, cells := 0, slots := 0, locals := 12 } : Room).cells ({ frames := 1, cells := 0, slots := 0, locals := 12 } : Room).slots) := by
  refine MetFree.of_bodySF (plainFor_of_name pn_4) hisR ?_
  intro p e s m args below meth c s₁ Bd hml0 hP hK
  obtain ⟨rfl, hZ, hh⟩ := hP
  have hx := Bd.exec
  have hby := Bd.bytes
  have hml : c.maxLocals = 1 := hml0
  have hown : s.vm.findClass "java/lang/Record" = some m.cls := findClass_of_methodNamed Bd.named
  have hnm := (name_of_methodNamed Bd.named Bd.method).1
  have X0 : Stand p l e ({ frames := 1, cells := 0, slots := 0, locals := 12 } : Room) s m #[(.ref r0)] below meth c s₁ [] 0 0 := Stand.of_body Bd
  have e0 : s₁.heap = h0 := by rw [← hh, Bd.state]; rfl
  have N0 := Fr.nil n0
  refine own_go (B := s₁.setTop (mkF m 0 (LS_R r0) [])) (fun t k => castTop (ef_rec m r0) k) ?_
  refine own_go (B := s₁.setTop (mkF m 1 (LS_R r0) [(.ref r0)])) (fun t k => ?_) ?_
  · show Steps p.tables e below (s₁.setTop (mkF m 0 (LS_R r0) [])) _
    refine XS.aloadN X0.here hx rfl (hb hby d4_0) rfl rfl ?_
    exact k
  obtain ⟨T1, X1, e1, st1⟩ := initO X0 hx hZ hown (hw _ (List.mem_of_getElem? (i := 41) rfl)) (hw _ (List.mem_of_getElem? (i := 42) rfl)) (hw _ (List.mem_of_getElem? (i := 43) rfl)) e0 (g := (mkF m 1 (LS_R r0) [(.ref r0)])) rfl (by rw [hml]; rfl) rfl (hb hby d4_1) (by decide) (W := 0) (by show 2 * 0 + _ ≤ _; exact Nat.le_of_eq rfl) (by decide)
  refine own_go (B := T1.setTop (mkF m 4 (LS_R r0) [])) (fun t k => st1 _ k) ?_
  obtain ⟨fs, hr, hrun, hended, hW, hsame⟩ := X1.leave (v := none) (fun _ => rfl)
  refine ⟨_, _, ?_, hrun, hended, _, _, rfl, ?_, ⟨_, rfl⟩, hW, hsame.mono (by decide) (by decide)⟩
  · show Steps p.tables e below (T1.setTop (mkF m 4 (LS_R r0) [])) _
    exact X1.returnOut hx Bd.returns (hb hby d4_4) hr
  · show Qrec Z r0 h0 n0 _ T1.heap _
    rw [e1]
    exact ⟨rfl, N0, rfl⟩
theorem ef_max (m : MethodId) (p0 : Int32) (p1 : Int32) : entryFrame m #[(.int p0), (.int p1)] 2 = mkF m 0 #[.val (.int p0), .val (.int p1)] [] := by first | (simp [entryFrame, mkF, argsToLocals, Value.category]; done) | rfl
theorem pn_1 : plainFor (⟨"java/lang/Math", "max", "(II)I"⟩ : MethodName) = true := by decide +kernel
abbrev LS_II (a0 : Int32) (a1 : Int32) : Array Slot := #[.val (.int a0), .val (.int a1)]
theorem d1_0 : decode jdk_29_method_65_code 0 = .ok (.iload_n 0, 1) := by decide +kernel
theorem d1_1 : decode jdk_29_method_65_code 1 = .ok (.iload_n 1, 1) := by decide +kernel
theorem d1_2 : decode jdk_29_method_65_code 2 = .ok (.if_icmp .lt 7, 3) := by decide +kernel
theorem d1_9 : decode jdk_29_method_65_code 9 = .ok (.iload_n 1, 1) := by decide +kernel
theorem d1_10 : decode jdk_29_method_65_code 10 = .ok (.ireturn, 1) := by decide +kernel
theorem d1_5 : decode jdk_29_method_65_code 5 = .ok (.iload_n 0, 1) := by decide +kernel
theorem d1_6 : decode jdk_29_method_65_code 6 = .ok (.goto 4, 3) := by decide +kernel
def Qmax (Z : State) (p0 : Int32) (p1 : Int32) (h0 : Heap) (n0 : Nat) (v : Option Value) (h : Heap) (L : List Loc) : Prop := v = some (.int (if p0 < p1 then p1 else p0)) ∧ Fr n0 L ∧ h = h0
set_option maxRecDepth 65536 in
set_option maxHeartbeats 40000000 in
theorem rmmax (l : Launch) (Z : State) (a0 : Array Value) (hw : ∀ d ∈ tables_1, d.before a0 Z = true) (ws : List Jvm.Cond) (p0 : Int32) (p1 : Int32) (h0 : Heap) (n0 : Nat) (Z0 : n0 ≤ h0.size) :
    MetFree l (⟨"java/lang/Math", "max", "(II)I"⟩ : MethodName) (head1 (Jvm.Cond.code (⟨"java/lang/Math", "max", "(II)I"⟩ : MethodName) jdk_29_method_65_code 2 (some .int) :: ws) ({ frames := 0, cells := 0, slots := 0, locals := 0 } : Room)) (fun a U => a = #[(.int p0), (.int p1)] ∧ Z.Warmed39 U.vm ∧ U.heap = h0) (fun _ _ _ _ _ => True) (fun _ U o U' => ∃ v L, o = .returned v ∧ Qmax Z p0 p1 h0 n0 v U'.heap L ∧ FrameEnd U o U' L ({ frames := 0, cells := 0, slots := 0, locals := 0 } : Room).cells ({ frames := 0, cells := 0, slots := 0, locals := 0 } : Room).slots) := by
  refine MetFree.of_bodySF (Jvm.Free.JP.mathPlain rfl (by decide +kernel)) hisR ?_
  intro p e s m args below meth c s₁ Bd hml0 hP hK
  obtain ⟨rfl, hZ, hh⟩ := hP
  have hx := Bd.exec
  have hby := Bd.bytes
  have hml : c.maxLocals = 2 := hml0
  have hown : s.vm.findClass "java/lang/Math" = some m.cls := findClass_of_methodNamed Bd.named
  have hnm := (name_of_methodNamed Bd.named Bd.method).1
  have X0 : Stand p l e ({ frames := 0, cells := 0, slots := 0, locals := 0 } : Room) s m #[(.int p0), (.int p1)] below meth c s₁ [] 0 0 := Stand.of_body Bd
  have e0 : s₁.heap = h0 := by rw [← hh, Bd.state]; rfl
  have N0 := Fr.nil n0
  refine own_go (B := s₁.setTop (mkF m 0 (LS_II p0 p1) [])) (fun t k => castTop (ef_max m p0 p1) k) ?_
  refine own_go (B := s₁.setTop (mkF m 2 (LS_II p0 p1) [(.int p1), (.int p0)])) (fun t k => ?_) ?_
  · show Steps p.tables e below (s₁.setTop (mkF m 0 (LS_II p0 p1) [])) _
    refine XS.iloadN X0.here hx rfl (hb hby d1_0) rfl ?_
    show Steps p.tables e below (s₁.setTop (mkF m 1 (LS_II p0 p1) [(.int p0)])) _
    refine XS.iloadN X0.here hx rfl (hb hby d1_1) rfl ?_
    exact k
  by_cases hc2_1 : p0 < p1
  · refine own_go (B := s₁.setTop (mkF m 10 (LS_II p0 p1) [(.int p1)])) (fun t k => ?_) ?_
    · show Steps p.tables e below (s₁.setTop (mkF m 2 (LS_II p0 p1) [(.int p1), (.int p0)])) _
      refine XS.icmpYes X0.here hx rfl (pc0 := 2) (pc' := 9) rfl (hb hby d1_2) rfl (tlt hc2_1).1 (by decide) (by decide) ?_
      show Steps p.tables e below (s₁.setTop (mkF m 9 (LS_II p0 p1) [])) _
      refine XS.iloadN X0.here hx rfl (hb hby d1_9) rfl ?_
      exact k
    obtain ⟨fs, hr, hrun, hended, hW, hsame⟩ := X0.leave (v := some (.int p1)) (fun h => by rw [Bd.returns] at h; cases h)
    refine ⟨_, _, ?_, hrun, hended, _, _, rfl, ?_, ⟨_, rfl⟩, hW, hsame.mono (by decide) (by decide)⟩
    · show Steps p.tables e below (s₁.setTop (mkF m 10 (LS_II p0 p1) [(.int p1)])) _
      exact retOut X0 hx Bd.returns rfl (Or.inl ⟨rfl, Or.inl rfl, _, rfl⟩) (hb hby d1_10) hr
    · show Qmax Z p0 p1 h0 n0 _ s₁.heap _
      rw [e0]
      exact ⟨by rw [if_pos hc2_1], N0, rfl⟩
  · refine own_go (B := s₁.setTop (mkF m 10 (LS_II p0 p1) [(.int p0)])) (fun t k => ?_) ?_
    · show Steps p.tables e below (s₁.setTop (mkF m 2 (LS_II p0 p1) [(.int p1), (.int p0)])) _
      refine XS.icmpNo X0.here hx rfl (hb hby d1_2) rfl (flt hc2_1).1 ?_
      show Steps p.tables e below (s₁.setTop (mkF m 5 (LS_II p0 p1) [])) _
      refine XS.iloadN X0.here hx rfl (hb hby d1_5) rfl ?_
      show Steps p.tables e below (s₁.setTop (mkF m 6 (LS_II p0 p1) [(.int p0)])) _
      refine XS.goto X0.here hx rfl (pc0 := 6) (pc' := 10) rfl (hb hby d1_6) (by decide) (by decide) ?_
      exact k
    obtain ⟨fs, hr, hrun, hended, hW, hsame⟩ := X0.leave (v := some (.int p0)) (fun h => by rw [Bd.returns] at h; cases h)
    refine ⟨_, _, ?_, hrun, hended, _, _, rfl, ?_, ⟨_, rfl⟩, hW, hsame.mono (by decide) (by decide)⟩
    · show Steps p.tables e below (s₁.setTop (mkF m 10 (LS_II p0 p1) [(.int p0)])) _
      exact retOut X0 hx Bd.returns rfl (Or.inl ⟨rfl, Or.inl rfl, _, rfl⟩) (hb hby d1_10) hr
    · show Qmax Z p0 p1 h0 n0 _ s₁.heap _
      rw [e0]
      exact ⟨by rw [if_neg hc2_1], N0, rfl⟩
theorem ef_gtimeWindowSec (m : MethodId) (r0 : Addr) : entryFrame m #[(.ref r0)] 1 = mkF m 0 #[.val (.ref r0)] [] := by first | (simp [entryFrame, mkF, argsToLocals, Value.category]; done) | rfl
theorem pn_8 : plainName "com/example/blend2/blend2/Rule" = true := by first | (simp [plainName, overriddenIn]; done) | decide +kernel
theorem d8_0 : decode prog_11_method_8_code 0 = .ok (.aload_n 0, 1) := by decide +kernel
theorem d8_1 : decode prog_11_method_8_code 1 = .ok (.getfield 38, 3) := by decide +kernel
theorem d8_4 : decode prog_11_method_8_code 4 = .ok (.ireturn, 1) := by decide +kernel
def QgtimeWindowSec (Z : State) (r0 : Addr) (p1 : Int32) (h0 : Heap) (n0 : Nat) (v : Option Value) (h : Heap) (L : List Loc) : Prop := v = some (.int p1) ∧ Fr n0 L ∧ h = h0
set_option maxRecDepth 65536 in
set_option maxHeartbeats 40000000 in
theorem rmgtimeWindowSec (l : Launch) (Z : State) (a0 : Array Value) (hw : ∀ d ∈ tables_1, d.before a0 Z = true) (ws : List Jvm.Cond) (r0 : Addr) (p1 : Int32) (h0 : Heap) (n0 : Nat) (Z0 : n0 ≤ h0.size) (F0 : Fld Z h0 r0 "com/example/blend2/blend2/Rule" "timeWindowSec" "I" (.int p1)) :
    MetFree l (⟨"com/example/blend2/blend2/Rule", "timeWindowSec", "()I"⟩ : MethodName) (head1 (Jvm.Cond.code (⟨"com/example/blend2/blend2/Rule", "timeWindowSec", "()I"⟩ : MethodName) prog_11_method_8_code 1 (some .int) :: ws) ({ frames := 0, cells := 0, slots := 0, locals := 0 } : Room)) (fun a U => a = #[(.ref r0)] ∧ Z.Warmed39 U.vm ∧ U.heap = h0) (fun _ _ _ _ _ => True) (fun _ U o U' => ∃ v L, o = .returned v ∧ QgtimeWindowSec Z r0 p1 h0 n0 v U'.heap L ∧ FrameEnd U o U' L ({ frames := 0, cells := 0, slots := 0, locals := 0 } : Room).cells ({ frames := 0, cells := 0, slots := 0, locals := 0 } : Room).slots) := by
  refine MetFree.of_bodySF (plainFor_of_name pn_8) hisR ?_
  intro p e s m args below meth c s₁ Bd hml0 hP hK
  obtain ⟨rfl, hZ, hh⟩ := hP
  have hx := Bd.exec
  have hby := Bd.bytes
  have hml : c.maxLocals = 1 := hml0
  have hown : s.vm.findClass "com/example/blend2/blend2/Rule" = some m.cls := findClass_of_methodNamed Bd.named
  have hnm := (name_of_methodNamed Bd.named Bd.method).1
  have X0 : Stand p l e ({ frames := 0, cells := 0, slots := 0, locals := 0 } : Room) s m #[(.ref r0)] below meth c s₁ [] 0 0 := Stand.of_body Bd
  have e0 : s₁.heap = h0 := by rw [← hh, Bd.state]; rfl
  have N0 := Fr.nil n0
  refine own_go (B := s₁.setTop (mkF m 0 (LS_R r0) [])) (fun t k => castTop (ef_gtimeWindowSec m r0) k) ?_
  refine own_go (B := s₁.setTop (mkF m 1 (LS_R r0) [(.ref r0)])) (fun t k => ?_) ?_
  · show Steps p.tables e below (s₁.setTop (mkF m 0 (LS_R r0) [])) _
    refine XS.aloadN X0.here hx rfl (hb hby d8_0) rfl rfl ?_
    exact k
  obtain ⟨T1, X1, e1, st1⟩ := getF X0 hx hZ hown (host := "") (Or.inl (hw _ (List.mem_of_getElem? (i := 55) rfl))) Via.refl e0 F0 (g := (mkF m 1 (LS_R r0) [(.ref r0)])) rfl rfl (hb hby d8_1)
  refine own_go (B := T1.setTop (mkF m 4 (LS_R r0) [(.int p1)])) (fun t k => st1 _ k) ?_
  obtain ⟨fs, hr, hrun, hended, hW, hsame⟩ := X1.leave (v := some (.int p1)) (fun h => by rw [Bd.returns] at h; cases h)
  refine ⟨_, _, ?_, hrun, hended, _, _, rfl, ?_, ⟨_, rfl⟩, hW, hsame.mono (by decide) (by decide)⟩
  · show Steps p.tables e below (T1.setTop (mkF m 4 (LS_R r0) [(.int p1)])) _
    exact retOut X1 hx Bd.returns rfl (Or.inl ⟨rfl, Or.inl rfl, _, rfl⟩) (hb hby d8_4) hr
  · show QgtimeWindowSec Z r0 p1 h0 n0 _ T1.heap _
    rw [e1]
    exact ⟨rfl, N0, rfl⟩
theorem ef_gcapacity (m : MethodId) (r0 : Addr) : entryFrame m #[(.ref r0)] 1 = mkF m 0 #[.val (.ref r0)] [] := by first | (simp [entryFrame, mkF, argsToLocals, Value.category]; done) | rfl
theorem pn_11 : plainName "com/example/blend2/blend2/Rule" = true := by first | (simp [plainName, overriddenIn]; done) | decide +kernel
theorem d11_0 : decode prog_11_method_7_code 0 = .ok (.aload_n 0, 1) := by decide +kernel
theorem d11_1 : decode prog_11_method_7_code 1 = .ok (.getfield 34, 3) := by decide +kernel
theorem d11_4 : decode prog_11_method_7_code 4 = .ok (.ireturn, 1) := by decide +kernel
def Qgcapacity (Z : State) (r0 : Addr) (p1 : Int32) (h0 : Heap) (n0 : Nat) (v : Option Value) (h : Heap) (L : List Loc) : Prop := v = some (.int p1) ∧ Fr n0 L ∧ h = h0
set_option maxRecDepth 65536 in
set_option maxHeartbeats 40000000 in
theorem rmgcapacity (l : Launch) (Z : State) (a0 : Array Value) (hw : ∀ d ∈ tables_1, d.before a0 Z = true) (ws : List Jvm.Cond) (r0 : Addr) (p1 : Int32) (h0 : Heap) (n0 : Nat) (Z0 : n0 ≤ h0.size) (F0 : Fld Z h0 r0 "com/example/blend2/blend2/Rule" "capacity" "I" (.int p1)) :
    MetFree l (⟨"com/example/blend2/blend2/Rule", "capacity", "()I"⟩ : MethodName) (head1 (Jvm.Cond.code (⟨"com/example/blend2/blend2/Rule", "capacity", "()I"⟩ : MethodName) prog_11_method_7_code 1 (some .int) :: ws) ({ frames := 0, cells := 0, slots := 0, locals := 0 } : Room)) (fun a U => a = #[(.ref r0)] ∧ Z.Warmed39 U.vm ∧ U.heap = h0) (fun _ _ _ _ _ => True) (fun _ U o U' => ∃ v L, o = .returned v ∧ Qgcapacity Z r0 p1 h0 n0 v U'.heap L ∧ FrameEnd U o U' L ({ frames := 0, cells := 0, slots := 0, locals := 0 } : Room).cells ({ frames := 0, cells := 0, slots := 0, locals := 0 } : Room).slots) := by
  refine MetFree.of_bodySF (plainFor_of_name pn_11) hisR ?_
  intro p e s m args below meth c s₁ Bd hml0 hP hK
  obtain ⟨rfl, hZ, hh⟩ := hP
  have hx := Bd.exec
  have hby := Bd.bytes
  have hml : c.maxLocals = 1 := hml0
  have hown : s.vm.findClass "com/example/blend2/blend2/Rule" = some m.cls := findClass_of_methodNamed Bd.named
  have hnm := (name_of_methodNamed Bd.named Bd.method).1
  have X0 : Stand p l e ({ frames := 0, cells := 0, slots := 0, locals := 0 } : Room) s m #[(.ref r0)] below meth c s₁ [] 0 0 := Stand.of_body Bd
  have e0 : s₁.heap = h0 := by rw [← hh, Bd.state]; rfl
  have N0 := Fr.nil n0
  refine own_go (B := s₁.setTop (mkF m 0 (LS_R r0) [])) (fun t k => castTop (ef_gcapacity m r0) k) ?_
  refine own_go (B := s₁.setTop (mkF m 1 (LS_R r0) [(.ref r0)])) (fun t k => ?_) ?_
  · show Steps p.tables e below (s₁.setTop (mkF m 0 (LS_R r0) [])) _
    refine XS.aloadN X0.here hx rfl (hb hby d11_0) rfl rfl ?_
    exact k
  obtain ⟨T1, X1, e1, st1⟩ := getF X0 hx hZ hown (host := "") (Or.inl (hw _ (List.mem_of_getElem? (i := 53) rfl))) Via.refl e0 F0 (g := (mkF m 1 (LS_R r0) [(.ref r0)])) rfl rfl (hb hby d11_1)
  refine own_go (B := T1.setTop (mkF m 4 (LS_R r0) [(.int p1)])) (fun t k => st1 _ k) ?_
  obtain ⟨fs, hr, hrun, hended, hW, hsame⟩ := X1.leave (v := some (.int p1)) (fun h => by rw [Bd.returns] at h; cases h)
  refine ⟨_, _, ?_, hrun, hended, _, _, rfl, ?_, ⟨_, rfl⟩, hW, hsame.mono (by decide) (by decide)⟩
  · show Steps p.tables e below (T1.setTop (mkF m 4 (LS_R r0) [(.int p1)])) _
    exact retOut X1 hx Bd.returns rfl (Or.inl ⟨rfl, Or.inl rfl, _, rfl⟩) (hb hby d11_4) hr
  · show Qgcapacity Z r0 p1 h0 n0 _ T1.heap _
    rw [e1]
    exact ⟨rfl, N0, rfl⟩
theorem ef_neg (m : MethodId) (r0 : Addr) : entryFrame m #[(.ref r0)] 1 = mkF m 0 #[.val (.ref r0)] [] := by first | (simp [entryFrame, mkF, argsToLocals, Value.category]; done) | rfl
theorem pn_18 : plainName "java/time/Duration" = true := by first | (simp [plainName, overriddenIn]; done) | decide +kernel
theorem d18_0 : decode jdk_2316_method_22_code 0 = .ok (.aload_n 0, 1) := by decide +kernel
theorem d18_1 : decode jdk_2316_method_22_code 1 = .ok (.getfield 221, 3) := by decide +kernel
theorem d18_4 : decode jdk_2316_method_22_code 4 = .ok (.lconst 0, 1) := by decide +kernel
theorem d18_5 : decode jdk_2316_method_22_code 5 = .ok (.lcmp, 1) := by decide +kernel
theorem d18_6 : decode jdk_2316_method_22_code 6 = .ok (.ifCond .ge 7, 3) := by decide +kernel
theorem d18_13 : decode jdk_2316_method_22_code 13 = .ok (.iconst 0, 1) := by decide +kernel
theorem d18_14 : decode jdk_2316_method_22_code 14 = .ok (.ireturn, 1) := by decide +kernel
def Qneg (Z : State) (r0 : Addr) (q1 : Int64) (h0 : Heap) (n0 : Nat) (v : Option Value) (h : Heap) (L : List Loc) : Prop := v = some (.int (0 : Int32)) ∧ Fr n0 L ∧ h = h0
set_option maxRecDepth 65536 in
set_option maxHeartbeats 40000000 in
theorem rmneg (l : Launch) (Z : State) (a0 : Array Value) (hw : ∀ d ∈ tables_1, d.before a0 Z = true) (ws : List Jvm.Cond) (r0 : Addr) (q1 : Int64) (h0 : Heap) (n0 : Nat) (Z0 : n0 ≤ h0.size) (F0 : Fld Z h0 r0 "java/time/Duration" "seconds" "J" (.long q1)) (hq : ¬ (q1 < (0 : Int64))) :
    MetFree l (⟨"java/time/Duration", "isNegative", "()Z"⟩ : MethodName) (head1 (Jvm.Cond.code (⟨"java/time/Duration", "isNegative", "()Z"⟩ : MethodName) jdk_2316_method_22_code 1 (some .boolean) :: ws) ({ frames := 0, cells := 0, slots := 0, locals := 0 } : Room)) (fun a U => a = #[(.ref r0)] ∧ Z.Warmed39 U.vm ∧ U.heap = h0) (fun _ _ _ _ _ => True) (fun _ U o U' => ∃ v L, o = .returned v ∧ Qneg Z r0 q1 h0 n0 v U'.heap L ∧ FrameEnd U o U' L ({ frames := 0, cells := 0, slots := 0, locals := 0 } : Room).cells ({ frames := 0, cells := 0, slots := 0, locals := 0 } : Room).slots) := by
  refine MetFree.of_bodySF (plainFor_of_name pn_18) hisR ?_
  intro p e s m args below meth c s₁ Bd hml0 hP hK
  obtain ⟨rfl, hZ, hh⟩ := hP
  have hx := Bd.exec
  have hby := Bd.bytes
  have hml : c.maxLocals = 1 := hml0
  have hown : s.vm.findClass "java/time/Duration" = some m.cls := findClass_of_methodNamed Bd.named
  have hnm := (name_of_methodNamed Bd.named Bd.method).1
  have X0 : Stand p l e ({ frames := 0, cells := 0, slots := 0, locals := 0 } : Room) s m #[(.ref r0)] below meth c s₁ [] 0 0 := Stand.of_body Bd
  have e0 : s₁.heap = h0 := by rw [← hh, Bd.state]; rfl
  have N0 := Fr.nil n0
  refine own_go (B := s₁.setTop (mkF m 0 (LS_R r0) [])) (fun t k => castTop (ef_neg m r0) k) ?_
  refine own_go (B := s₁.setTop (mkF m 1 (LS_R r0) [(.ref r0)])) (fun t k => ?_) ?_
  · show Steps p.tables e below (s₁.setTop (mkF m 0 (LS_R r0) [])) _
    refine XS.aloadN X0.here hx rfl (hb hby d18_0) rfl rfl ?_
    exact k
  obtain ⟨T1, X1, e1, st1⟩ := getF X0 hx hZ hown (host := "") (Or.inl (hw _ (List.mem_of_getElem? (i := 132) rfl))) Via.refl e0 F0 (g := (mkF m 1 (LS_R r0) [(.ref r0)])) rfl rfl (hb hby d18_1)
  refine own_go (B := T1.setTop (mkF m 4 (LS_R r0) [(.long q1)])) (fun t k => st1 _ k) ?_
  refine own_go (B := T1.setTop (mkF m 14 (LS_R r0) [(.int (0 : Int32))])) (fun t k => ?_) ?_
  · show Steps p.tables e below (T1.setTop (mkF m 4 (LS_R r0) [(.long q1)])) _
    refine XS.lconst X1.here hx rfl (hb hby d18_4) ?_
    show Steps p.tables e below (T1.setTop (mkF m 5 (LS_R r0) [(.long (0 : Int64)), (.long q1)])) _
    refine XS.lcmp X1.here hx rfl (hb hby d18_5) rfl ?_
    show Steps p.tables e below (T1.setTop (mkF m 6 (LS_R r0) [(.int (lcmpW q1 (0 : Int64)))])) _
    refine XS.ifYes X1.here hx rfl (pc0 := 6) (pc' := 13) rfl (hb hby d18_6) rfl ((if0 _ _).trans (flt (fun q => hq ((lw_lt q1 (0 : Int64)).mp q))).2.1) (by decide) (by decide) ?_
    show Steps p.tables e below (T1.setTop (mkF m 13 (LS_R r0) [])) _
    refine XS.iconst X1.here hx rfl (hb hby d18_13) ?_
    exact k
  obtain ⟨fs, hr, hrun, hended, hW, hsame⟩ := X1.leave (v := some (.int (0 : Int32))) (fun h => by rw [Bd.returns] at h; cases h)
  refine ⟨_, _, ?_, hrun, hended, _, _, rfl, ?_, ⟨_, rfl⟩, hW, hsame.mono (by decide) (by decide)⟩
  · show Steps p.tables e below (T1.setTop (mkF m 14 (LS_R r0) [(.int (0 : Int32))])) _
    exact retN X1 hx (t := .boolean) Bd.returns (by simp) (hb hby d18_14) hr
  · show Qneg Z r0 q1 h0 n0 _ T1.heap _
    rw [e1]
    exact ⟨rfl, N0, rfl⟩
theorem ef_dui (m : MethodId) (r0 : Addr) (q1 : Int64) (p2 : Int32) : entryFrame m #[(.ref r0), (.long q1), (.int p2)] 4 = mkF m 0 #[.val (.ref r0), .val (.long q1), .second, .val (.int p2)] [] := by first | (simp [entryFrame, mkF, argsToLocals, Value.category]; done) | rfl
theorem pn_23 : plainName "java/time/Duration" = true := by first | (simp [plainName, overriddenIn]; done) | decide +kernel
abbrev LS_RJsI (a0 : Addr) (a1 : Int64) (a2 : Int32) : Array Slot := #[.val (.ref a0), .val (.long a1), .second, .val (.int a2)]
theorem d23_0 : decode jdk_2316_method_17_code 0 = .ok (.aload_n 0, 1) := by decide +kernel
theorem d23_1 : decode jdk_2316_method_17_code 1 = .ok (.invokespecial 218, 3) := by decide +kernel
theorem d23_4 : decode jdk_2316_method_17_code 4 = .ok (.aload_n 0, 1) := by decide +kernel
theorem d23_5 : decode jdk_2316_method_17_code 5 = .ok (.lload_n 1, 1) := by decide +kernel
theorem d23_6 : decode jdk_2316_method_17_code 6 = .ok (.putfield 221, 3) := by decide +kernel
theorem d23_9 : decode jdk_2316_method_17_code 9 = .ok (.aload_n 0, 1) := by decide +kernel
theorem d23_10 : decode jdk_2316_method_17_code 10 = .ok (.iload_n 3, 1) := by decide +kernel
theorem d23_11 : decode jdk_2316_method_17_code 11 = .ok (.putfield 224, 3) := by decide +kernel
theorem d23_14 : decode jdk_2316_method_17_code 14 = .ok (.return_, 1) := by decide +kernel
def Qdui (Z : State) (r0 : Addr) (q1 : Int64) (p2 : Int32) (h0 : Heap) (n0 : Nat) (v : Option Value) (h : Heap) (L : List Loc) : Prop := v = none ∧ Fr n0 L ∧ Keep h0 h [r0] ∧ Fld Z h r0 "java/time/Duration" "seconds" "J" (.long q1)
set_option maxRecDepth 65536 in
set_option maxHeartbeats 40000000 in
theorem rmdui (l : Launch) (Z : State) (a0 : Array Value) (hw : ∀ d ∈ tables_1, d.before a0 Z = true) (ws : List Jvm.Cond) (r0 : Addr) (q1 : Int64) (p2 : Int32) (h0 : Heap) (n0 : Nat) (Z0 : n0 ≤ h0.size) (E0 : Exa Z h0 r0 "java/time/Duration") (F1 : Fld Z h0 r0 "java/time/Duration" "seconds" "J" (.long (0 : Int64))) (F2 : Fld Z h0 r0 "java/time/Duration" "nanos" "I" (.int (0 : Int32))) (g_r0 : n0 ≤ r0) :
    MetFree l (⟨"java/time/Duration", "<init>", "(JI)V"⟩ : MethodName) (head1 (Jvm.Cond.code (⟨"java/time/Duration", "<init>", "(JI)V"⟩ : MethodName) jdk_2316_method_17_code 4 none :: ws) ({ frames := 1, cells := 0, slots := 0, locals := 12 } : Room)) (fun a U => a = #[(.ref r0), (.long q1), (.int p2)] ∧ Z.Warmed39 U.vm ∧ U.heap = h0) (fun _ _ _ _ _ => True) (fun _ U o U' => ∃ v L, o = .returned v ∧ Qdui Z r0 q1 p2 h0 n0 v U'.heap L ∧ FrameEnd U o U' L ({ frames := 1, cells := 0, slots := 0, locals := 12 } : Room).cells ({ frames := 1, cells := 0, slots := 0, locals := 12 } : Room).slots) := by
  refine MetFree.of_bodySF (plainFor_of_name pn_23) hisR ?_
  intro p e s m args below meth c s₁ Bd hml0 hP hK
  obtain ⟨rfl, hZ, hh⟩ := hP
  have hx := Bd.exec
  have hby := Bd.bytes
  have hml : c.maxLocals = 4 := hml0
  have hown : s.vm.findClass "java/time/Duration" = some m.cls := findClass_of_methodNamed Bd.named
  have hnm := (name_of_methodNamed Bd.named Bd.method).1
  have X0 : Stand p l e ({ frames := 1, cells := 0, slots := 0, locals := 12 } : Room) s m #[(.ref r0), (.long q1), (.int p2)] below meth c s₁ [] 0 0 := Stand.of_body Bd
  have e0 : s₁.heap = h0 := by rw [← hh, Bd.state]; rfl
  have N0 := Fr.nil n0
  refine own_go (B := s₁.setTop (mkF m 0 (LS_RJsI r0 q1 p2) [])) (fun t k => castTop (ef_dui m r0 q1 p2) k) ?_
  have K0 : Keep h0 h0 [r0] := Keep.refl _ _
  refine own_go (B := s₁.setTop (mkF m 1 (LS_RJsI r0 q1 p2) [(.ref r0)])) (fun t k => ?_) ?_
  · show Steps p.tables e below (s₁.setTop (mkF m 0 (LS_RJsI r0 q1 p2) [])) _
    refine XS.aloadN X0.here hx rfl (hb hby d23_0) rfl rfl ?_
    exact k
  obtain ⟨T1, X1, e1, st1⟩ := initO X0 hx hZ hown (hw _ (List.mem_of_getElem? (i := 169) rfl)) (hw _ (List.mem_of_getElem? (i := 42) rfl)) (hw _ (List.mem_of_getElem? (i := 43) rfl)) e0 (g := (mkF m 1 (LS_RJsI r0 q1 p2) [(.ref r0)])) rfl (by rw [hml]; rfl) rfl (hb hby d23_1) (by decide) (W := 0) (by show 2 * 0 + _ ≤ _; exact Nat.le_of_eq rfl) (by decide)
  refine own_go (B := T1.setTop (mkF m 4 (LS_RJsI r0 q1 p2) [])) (fun t k => st1 _ k) ?_
  refine own_go (B := T1.setTop (mkF m 6 (LS_RJsI r0 q1 p2) [(.long q1), (.ref r0)])) (fun t k => ?_) ?_
  · show Steps p.tables e below (T1.setTop (mkF m 4 (LS_RJsI r0 q1 p2) [])) _
    refine XS.aloadN X1.here hx rfl (hb hby d23_4) rfl rfl ?_
    show Steps p.tables e below (T1.setTop (mkF m 5 (LS_RJsI r0 q1 p2) [(.ref r0)])) _
    refine XS.lloadN X1.here hx rfl (hb hby d23_5) rfl ?_
    exact k
  obtain ⟨T2, h2, X2, e2, W2, st2⟩ := putF X1 hx hZ hown (host := "") (Or.inl (hw _ (List.mem_of_getElem? (i := 132) rfl))) Via.refl e1 F1 E0 (Or.inr ⟨(hw _ (List.mem_of_getElem? (i := 133) rfl)), rfl, hnm⟩) (hw _ (List.mem_of_getElem? (i := 164) rfl)) (ty := .long) (by decide) rfl rfl (g := (mkF m 6 (LS_RJsI r0 q1 p2) [(.long q1), (.ref r0)])) rfl rfl (hb hby d23_6)
  have N2 := Fr.snoc X2 N0 g_r0
  have Fw2 := F1.same W2
  refine own_go (B := T2.setTop (mkF m 9 (LS_RJsI r0 q1 p2) [])) (fun t k => st2 _ k) ?_
  refine own_go (B := T2.setTop (mkF m 11 (LS_RJsI r0 q1 p2) [(.int p2), (.ref r0)])) (fun t k => ?_) ?_
  · show Steps p.tables e below (T2.setTop (mkF m 9 (LS_RJsI r0 q1 p2) [])) _
    refine XS.aloadN X2.here hx rfl (hb hby d23_9) rfl rfl ?_
    show Steps p.tables e below (T2.setTop (mkF m 10 (LS_RJsI r0 q1 p2) [(.ref r0)])) _
    refine XS.iloadN X2.here hx rfl (hb hby d23_10) rfl ?_
    exact k
  have E0_v3 := E0.wr W2
  have F2_v4 := F2.other W2 (Or.inr (slot_ne (Or.inr (hw _ (List.mem_of_getElem? (i := 171) rfl))) (Or.inr (hw _ (List.mem_of_getElem? (i := 133) rfl))) (by decide) (t := .int) (t' := .long) (by decide) (by decide)))
  obtain ⟨T5, h5, X5, e5, W5, st5⟩ := putF X2 hx hZ hown (host := "") (Or.inl (hw _ (List.mem_of_getElem? (i := 170) rfl))) Via.refl e2 F2_v4 E0_v3 (Or.inr ⟨(hw _ (List.mem_of_getElem? (i := 171) rfl)), rfl, hnm⟩) (hw _ (List.mem_of_getElem? (i := 164) rfl)) (ty := .int) (by decide) rfl rfl (g := (mkF m 11 (LS_RJsI r0 q1 p2) [(.int p2), (.ref r0)])) rfl rfl (hb hby d23_11)
  have N5 := Fr.snoc X5 N2 g_r0
  have Fw5 := F2_v4.same W5
  refine own_go (B := T5.setTop (mkF m 14 (LS_RJsI r0 q1 p2) [])) (fun t k => st5 _ k) ?_
  obtain ⟨fs, hr, hrun, hended, hW, hsame⟩ := X5.leave (v := none) (fun _ => rfl)
  refine ⟨_, _, ?_, hrun, hended, _, _, rfl, ?_, ⟨_, rfl⟩, hW, hsame.mono (by decide) (by decide)⟩
  · show Steps p.tables e below (T5.setTop (mkF m 14 (LS_RJsI r0 q1 p2) [])) _
    exact X5.returnOut hx Bd.returns (hb hby d23_14) hr
  · show Qdui Z r0 q1 p2 h0 n0 _ T5.heap _
    rw [e5]
    have K0_v6 := K0.wr W2 (Or.inl (List.mem_of_getElem? (i := 0) rfl))
    have K0_v7 := K0_v6.wr W5 (Or.inl (List.mem_of_getElem? (i := 0) rfl))
    have Fw2_v8 := Fw2.other W5 (Or.inr (slot_ne (Or.inr (hw _ (List.mem_of_getElem? (i := 133) rfl))) (Or.inr (hw _ (List.mem_of_getElem? (i := 171) rfl))) (by decide) (t := .long) (t' := .int) (by decide) (by decide)))
    exact ⟨rfl, N5, K0_v7, Fw2_v8⟩
theorem ef_duc (m : MethodId) (q0 : Int64) (p1 : Int32) : entryFrame m #[(.long q0), (.int p1)] 3 = mkF m 0 #[.val (.long q0), .second, .val (.int p1)] [] := by first | (simp [entryFrame, mkF, argsToLocals, Value.category]; done) | rfl
theorem pn_22 : plainName "java/time/Duration" = true := by first | (simp [plainName, overriddenIn]; done) | decide +kernel
abbrev LS_JsI (a0 : Int64) (a1 : Int32) : Array Slot := #[.val (.long a0), .second, .val (.int a1)]
theorem d22_0 : decode jdk_2316_method_16_code 0 = .ok (.lload_n 0, 1) := by decide +kernel
theorem d22_1 : decode jdk_2316_method_16_code 1 = .ok (.iload_n 2, 1) := by decide +kernel
theorem d22_2 : decode jdk_2316_method_16_code 2 = .ok (.i2l, 1) := by decide +kernel
theorem d22_3 : decode jdk_2316_method_16_code 3 = .ok (.lor, 1) := by decide +kernel
theorem d22_4 : decode jdk_2316_method_16_code 4 = .ok (.lconst 0, 1) := by decide +kernel
theorem d22_5 : decode jdk_2316_method_16_code 5 = .ok (.lcmp, 1) := by decide +kernel
theorem d22_6 : decode jdk_2316_method_16_code 6 = .ok (.ifCond .ne 7, 3) := by decide +kernel
theorem d22_13 : decode jdk_2316_method_16_code 13 = .ok (.new 11, 3) := by decide +kernel
theorem d22_16 : decode jdk_2316_method_16_code 16 = .ok (.dup, 1) := by decide +kernel
theorem d22_17 : decode jdk_2316_method_16_code 17 = .ok (.lload_n 0, 1) := by decide +kernel
theorem d22_18 : decode jdk_2316_method_16_code 18 = .ok (.iload_n 2, 1) := by decide +kernel
theorem d22_19 : decode jdk_2316_method_16_code 19 = .ok (.invokespecial 215, 3) := by decide +kernel
theorem pd__JI_V : parseMethodDescriptor "(JI)V" = some ⟨[.long, .int], none⟩ := by decide +kernel
theorem d22_22 : decode jdk_2316_method_16_code 22 = .ok (.areturn, 1) := by decide +kernel
def Qduc (Z : State) (q0 : Int64) (p1 : Int32) (h0 : Heap) (n0 : Nat) (v : Option Value) (h : Heap) (L : List Loc) : Prop := ∃ r : Addr, v = some (.ref r) ∧ Fr n0 L ∧ h0.size ≤ r ∧ Keep h0 h [] ∧ Exa Z h r "java/time/Duration" ∧ Fld Z h r "java/time/Duration" "seconds" "J" (.long q0)
set_option maxRecDepth 65536 in
set_option maxHeartbeats 40000000 in
theorem rmduc (l : Launch) (Z : State) (a0 : Array Value) (hw : ∀ d ∈ tables_1, d.before a0 Z = true) (ws : List Jvm.Cond) (q0 : Int64) (p1 : Int32) (h0 : Heap) (n0 : Nat) (Z0 : n0 ≤ h0.size) (hz : ¬ ((q0 ||| (p1.toInt64)) = (0 : Int64))) :
    MetFree l (⟨"java/time/Duration", "create", "(JI)Ljava/time/Duration;"⟩ : MethodName) (head1 (Jvm.Cond.code (⟨"java/time/Duration", "create", "(JI)Ljava/time/Duration;"⟩ : MethodName) jdk_2316_method_16_code 3 (some (.object "java/time/Duration")) :: ws) ({ frames := 2, cells := 1, slots := 2, locals := 30 } : Room)) (fun a U => a = #[(.long q0), (.int p1)] ∧ Z.Warmed39 U.vm ∧ U.heap = h0) (fun _ _ _ _ _ => True) (fun _ U o U' => ∃ v L, o = .returned v ∧ Qduc Z q0 p1 h0 n0 v U'.heap L ∧ FrameEnd U o U' L ({ frames := 2, cells := 1, slots := 2, locals := 30 } : Room).cells ({ frames := 2, cells := 1, slots := 2, locals := 30 } : Room).slots) := by
  refine MetFree.of_bodySF (plainFor_of_name pn_22) hisR ?_
  intro p e s m args below meth c s₁ Bd hml0 hP hK
  obtain ⟨rfl, hZ, hh⟩ := hP
  have hx := Bd.exec
  have hby := Bd.bytes
  have hml : c.maxLocals = 3 := hml0
  have hown : s.vm.findClass "java/time/Duration" = some m.cls := findClass_of_methodNamed Bd.named
  have hnm := (name_of_methodNamed Bd.named Bd.method).1
  have X0 : Stand p l e ({ frames := 2, cells := 1, slots := 2, locals := 30 } : Room) s m #[(.long q0), (.int p1)] below meth c s₁ [] 0 0 := Stand.of_body Bd
  have e0 : s₁.heap = h0 := by rw [← hh, Bd.state]; rfl
  have N0 := Fr.nil n0
  refine own_go (B := s₁.setTop (mkF m 0 (LS_JsI q0 p1) [])) (fun t k => castTop (ef_duc m q0 p1) k) ?_
  have K0 : Keep h0 h0 [] := Keep.refl _ _
  refine own_go (B := s₁.setTop (mkF m 13 (LS_JsI q0 p1) [])) (fun t k => ?_) ?_
  · show Steps p.tables e below (s₁.setTop (mkF m 0 (LS_JsI q0 p1) [])) _
    refine XS.lloadN X0.here hx rfl (hb hby d22_0) rfl ?_
    show Steps p.tables e below (s₁.setTop (mkF m 1 (LS_JsI q0 p1) [(.long q0)])) _
    refine XS.iloadN X0.here hx rfl (hb hby d22_1) rfl ?_
    show Steps p.tables e below (s₁.setTop (mkF m 2 (LS_JsI q0 p1) [(.int p1), (.long q0)])) _
    refine XS.i2l X0.here hx rfl (hb hby d22_2) rfl ?_
    show Steps p.tables e below (s₁.setTop (mkF m 3 (LS_JsI q0 p1) [(.long (p1.toInt64)), (.long q0)])) _
    refine XS.lor X0.here hx rfl (hb hby d22_3) rfl ?_
    show Steps p.tables e below (s₁.setTop (mkF m 4 (LS_JsI q0 p1) [(.long (q0 ||| (p1.toInt64)))])) _
    refine XS.lconst X0.here hx rfl (hb hby d22_4) ?_
    show Steps p.tables e below (s₁.setTop (mkF m 5 (LS_JsI q0 p1) [(.long (0 : Int64)), (.long (q0 ||| (p1.toInt64)))])) _
    refine XS.lcmp X0.here hx rfl (hb hby d22_5) rfl ?_
    show Steps p.tables e below (s₁.setTop (mkF m 6 (LS_JsI q0 p1) [(.int (lcmpW (q0 ||| (p1.toInt64)) (0 : Int64)))])) _
    refine XS.ifYes X0.here hx rfl (pc0 := 6) (pc' := 13) rfl (hb hby d22_6) rfl ((if0 _ _).trans (feq (fun q => hz ((lw_eq (q0 ||| (p1.toInt64)) (0 : Int64)).mp q))).2) (by decide) (by decide) ?_
    exact k
  obtain ⟨T1, h1, X1, e1, E1, A1, D1, -, st1⟩ := newO X0 hx hZ hown (hw _ (List.mem_of_getElem? (i := 163) rfl)) (hw _ (List.mem_of_getElem? (i := 164) rfl)) (hw _ (List.mem_of_getElem? (i := 97) rfl)) e0 (g := (mkF m 13 (LS_JsI q0 p1) [])) rfl (hb hby d22_13) (by decide) (by decide)
  obtain ⟨b1, g1⟩ : ∃ z, z = h0.size := ⟨_, rfl⟩
  rw [← g1] at A1 D1 st1
  have g_b1 : n0 ≤ b1 := Nat.le_trans Z0 (Nat.le_of_eq g1.symm)
  have sz_b1 : h0.size ≤ b1 := Nat.le_trans K0.1 (Nat.le_of_eq g1.symm)
  have F1_seconds : Fld Z h1 b1 "java/time/Duration" "seconds" "J" (.long (0 : Int64)) := D1 (Or.inr (hw _ (List.mem_of_getElem? (i := 133) rfl))) (ty := .long) (by decide)
  have F1_nanos : Fld Z h1 b1 "java/time/Duration" "nanos" "I" (.int (0 : Int32)) := D1 (Or.inr (hw _ (List.mem_of_getElem? (i := 171) rfl))) (ty := .int) (by decide)
  refine own_go (B := T1.setTop (mkF m 16 (LS_JsI q0 p1) [(.ref b1)])) (fun t k => st1 _ k) ?_
  refine own_go (B := T1.setTop (mkF m 19 (LS_JsI q0 p1) [(.int p1), (.long q0), (.ref b1), (.ref b1)])) (fun t k => ?_) ?_
  · show Steps p.tables e below (T1.setTop (mkF m 16 (LS_JsI q0 p1) [(.ref b1)])) _
    refine XS.dup X1.here hx rfl (hb hby d22_16) rfl rfl ?_
    show Steps p.tables e below (T1.setTop (mkF m 17 (LS_JsI q0 p1) [(.ref b1), (.ref b1)])) _
    refine XS.lloadN X1.here hx rfl (hb hby d22_17) rfl ?_
    show Steps p.tables e below (T1.setTop (mkF m 18 (LS_JsI q0 p1) [(.long q0), (.ref b1), (.ref b1)])) _
    refine XS.iloadN X1.here hx rfl (hb hby d22_18) rfl ?_
    exact k
  have Z0_v2 := Nat.le_trans Z0 E1.1
  obtain ⟨_, _, ⟨T3, L3, k3, n3⟩, -, X3, ⟨Lc3, hQ3, l3, y3, z3⟩, st3⟩ := X1.specialBack hx (y := (⟨"java/time/Duration", "<init>", "(JI)V"⟩ : MethodName)) rfl hown (mvT hZ (hw _ (List.mem_of_getElem? (i := 165) rfl))) (mvT hZ (hw _ (List.mem_of_getElem? (i := 166) rfl))) (mvT hZ (hw _ (List.mem_of_getElem? (i := 168) rfl))) (by decide) (backOf (W := 1) (rmdui l Z a0 hw [] b1 q0 p1 h1 n0 Z0_v2 A1 F1_seconds F1_nanos g_b1) hZ (hw _ (List.mem_of_getElem? (i := 168) rfl)) (hw _ (List.mem_of_getElem? (i := 97) rfl)) (by decide) (by decide)) (g := (mkF m 19 (LS_JsI q0 p1) [(.int p1), (.long q0), (.ref b1), (.ref b1)])) rfl (by rw [hml]; rfl) (Steps.refl _) (a := b1) (argsL := [(.long q0), (.int p1)]) (rest := [(.ref b1)]) (lenOf pd__JI_V rfl) rfl (by show 2 * 0 + _ ≤ _; exact Nat.le_of_eq rfl) (hb hby d22_19) (fun _ _ => ⟨rfl, e1, (by decide : 1 + 0 ≤ _), (by decide : 2 + 0 ≤ _)⟩)
  dsimp only [Pt.U, Pt.locs, Pt.cells, Pt.slots] at X3 l3 y3 z3 st3 hQ3
  subst l3 y3 z3
  obtain ⟨rfl, N3q, K3, Fs3⟩ := hQ3
  have N3 := Fr.app N0 N3q
  refine own_go (B := T3.setTop (mkF m 22 (LS_JsI q0 p1) [(.ref b1)])) (fun t k => st3.trans k) ?_
  obtain ⟨fs, hr, hrun, hended, hW, hsame⟩ := X3.leave (v := some (.ref b1)) (fun h => by rw [Bd.returns] at h; cases h)
  refine ⟨_, _, ?_, hrun, hended, _, _, rfl, ?_, ⟨_, rfl⟩, hW, hsame.mono (by decide) (by decide)⟩
  · show Steps p.tables e below (T3.setTop (mkF m 22 (LS_JsI q0 p1) [(.ref b1)])) _
    exact retOut X3 hx Bd.returns rfl (Or.inr (Or.inr (Or.inr (Or.inr ⟨rfl, rfl, rfl⟩)))) (hb hby d22_22) hr
  · show Qduc Z q0 p1 h0 n0 _ T3.heap _
    have K0_v4 := K0.ext E1
    have K0_v5 := K0_v4.trans K3 (allS (Or.inr sz_b1) all0)
    have A1_v6 := A1.keep K3
    exact ⟨b1, rfl, N3, sz_b1, K0_v5, A1_v6, Fs3⟩
theorem ef_dum (m : MethodId) (q0 : Int64) : entryFrame m #[(.long q0)] 5 = mkF m 0 #[.val (.long q0), .second, .unset, .unset, .unset] [] := by first | (simp [entryFrame, mkF, argsToLocals, Value.category]; done) | rfl
theorem pn_21 : plainName "java/time/Duration" = true := by first | (simp [plainName, overriddenIn]; done) | decide +kernel
abbrev LS_Jsuuu (a0 : Int64) : Array Slot := #[.val (.long a0), .second, .unset, .unset, .unset]
theorem d21_0 : decode jdk_2316_method_6_code 0 = .ok (.lload_n 0, 1) := by decide +kernel
theorem d21_1 : decode jdk_2316_method_6_code 1 = .ok (.ldc2_w 28, 3) := by decide +kernel
theorem d21_4 : decode jdk_2316_method_6_code 4 = .ok (.ldiv, 1) := by decide +kernel
theorem d21_5 : decode jdk_2316_method_6_code 5 = .ok (.lstore_n 2, 1) := by decide +kernel
abbrev LS_JsJsu (a0 : Int64) (a1 : Int64) : Array Slot := #[.val (.long a0), .second, .val (.long a1), .second, .unset]
theorem d21_6 : decode jdk_2316_method_6_code 6 = .ok (.lload_n 0, 1) := by decide +kernel
theorem d21_7 : decode jdk_2316_method_6_code 7 = .ok (.ldc2_w 28, 3) := by decide +kernel
theorem d21_10 : decode jdk_2316_method_6_code 10 = .ok (.lrem, 1) := by decide +kernel
theorem d21_11 : decode jdk_2316_method_6_code 11 = .ok (.l2i, 1) := by decide +kernel
theorem d21_12 : decode jdk_2316_method_6_code 12 = .ok (.istore 4, 2) := by decide +kernel
abbrev LS_JsJsI (a0 : Int64) (a1 : Int64) (a2 : Int32) : Array Slot := #[.val (.long a0), .second, .val (.long a1), .second, .val (.int a2)]
theorem d21_14 : decode jdk_2316_method_6_code 14 = .ok (.iload 4, 2) := by decide +kernel
theorem d21_16 : decode jdk_2316_method_6_code 16 = .ok (.ifCond .ge 13, 3) := by decide +kernel
theorem d21_29 : decode jdk_2316_method_6_code 29 = .ok (.lload_n 2, 1) := by decide +kernel
theorem d21_30 : decode jdk_2316_method_6_code 30 = .ok (.iload 4, 2) := by decide +kernel
theorem d21_32 : decode jdk_2316_method_6_code 32 = .ok (.ldc 30, 2) := by decide +kernel
theorem d21_34 : decode jdk_2316_method_6_code 34 = .ok (.imul, 1) := by decide +kernel
theorem d21_35 : decode jdk_2316_method_6_code 35 = .ok (.invokestatic 10, 3) := by decide +kernel
theorem pd__JI_Ljava_time_Duration_ : parseMethodDescriptor "(JI)Ljava/time/Duration;" = some ⟨[.long, .int], some (.object "java/time/Duration")⟩ := by decide +kernel
theorem d21_38 : decode jdk_2316_method_6_code 38 = .ok (.areturn, 1) := by decide +kernel
def Qdum (Z : State) (q0 : Int64) (h0 : Heap) (n0 : Nat) (v : Option Value) (h : Heap) (L : List Loc) : Prop := ∃ r : Addr, v = some (.ref r) ∧ Fr n0 L ∧ h0.size ≤ r ∧ Keep h0 h [] ∧ Exa Z h r "java/time/Duration" ∧ Fld Z h r "java/time/Duration" "seconds" "J" (.long (q0 / (1000 : Int64)))
set_option maxRecDepth 65536 in
set_option maxHeartbeats 40000000 in
theorem rmdum (l : Launch) (Z : State) (a0 : Array Value) (hw : ∀ d ∈ tables_1, d.before a0 Z = true) (ws : List Jvm.Cond) (q0 : Int64) (h0 : Heap) (n0 : Nat) (Z0 : n0 ≤ h0.size) (hb1 : 0 < q0.toInt) (hb2 : q0.toInt ≤ 2147483647000) :
    MetFree l (⟨"java/time/Duration", "ofMillis", "(J)Ljava/time/Duration;"⟩ : MethodName) (head1 (Jvm.Cond.code (⟨"java/time/Duration", "ofMillis", "(J)Ljava/time/Duration;"⟩ : MethodName) jdk_2316_method_6_code 5 (some (.object "java/time/Duration")) :: ws) ({ frames := 3, cells := 1, slots := 2, locals := 50 } : Room)) (fun a U => a = #[(.long q0)] ∧ Z.Warmed39 U.vm ∧ U.heap = h0) (fun _ _ _ _ _ => True) (fun _ U o U' => ∃ v L, o = .returned v ∧ Qdum Z q0 h0 n0 v U'.heap L ∧ FrameEnd U o U' L ({ frames := 3, cells := 1, slots := 2, locals := 50 } : Room).cells ({ frames := 3, cells := 1, slots := 2, locals := 50 } : Room).slots) := by
  refine MetFree.of_bodySF (plainFor_of_name pn_21) hisR ?_
  intro p e s m args below meth c s₁ Bd hml0 hP hK
  obtain ⟨rfl, hZ, hh⟩ := hP
  have hx := Bd.exec
  have hby := Bd.bytes
  have hml : c.maxLocals = 5 := hml0
  have hown : s.vm.findClass "java/time/Duration" = some m.cls := findClass_of_methodNamed Bd.named
  have hnm := (name_of_methodNamed Bd.named Bd.method).1
  have X0 : Stand p l e ({ frames := 3, cells := 1, slots := 2, locals := 50 } : Room) s m #[(.long q0)] below meth c s₁ [] 0 0 := Stand.of_body Bd
  have e0 : s₁.heap = h0 := by rw [← hh, Bd.state]; rfl
  have N0 := Fr.nil n0
  refine own_go (B := s₁.setTop (mkF m 0 (LS_Jsuuu q0) [])) (fun t k => castTop (ef_dum m q0) k) ?_
  have K0 : Keep h0 h0 [] := Keep.refl _ _
  refine own_go (B := s₁.setTop (mkF m 35 (LS_JsJsI q0 (q0 / (1000 : Int64)) ((q0 - (q0 / (1000 : Int64)) * (1000 : Int64)).toInt32)) [(.int (((q0 - (q0 / (1000 : Int64)) * (1000 : Int64)).toInt32) * (1000000 : Int32))), (.long (q0 / (1000 : Int64)))])) (fun t k => ?_) ?_
  · show Steps p.tables e below (s₁.setTop (mkF m 0 (LS_Jsuuu q0) [])) _
    refine XS.lloadN X0.here hx rfl (hb hby d21_0) rfl ?_
    show Steps p.tables e below (s₁.setTop (mkF m 1 (LS_Jsuuu q0) [(.long q0)])) _
    refine X0.ldc2Long hx hown (mvT hZ (hw _ (List.mem_of_getElem? (i := 158) rfl))) (g := (mkF m 1 (LS_Jsuuu q0) [(.long q0)])) rfl (hb hby d21_1) _ ?_
    show Steps p.tables e below (s₁.setTop (mkF m 4 (LS_Jsuuu q0) [(.long (1000 : Int64)), (.long q0)])) _
    refine XS.ldiv X0.here hx rfl (hb hby d21_4) rfl (by decide) ?_
    show Steps p.tables e below (s₁.setTop (mkF m 5 (LS_Jsuuu q0) [(.long (q0 / (1000 : Int64)))])) _
    refine XS.lstoreN X0.here hx rfl (hb hby d21_5) rfl (l' := (LS_JsJsu q0 (q0 / (1000 : Int64)))) rfl ?_
    show Steps p.tables e below (s₁.setTop (mkF m 6 (LS_JsJsu q0 (q0 / (1000 : Int64))) [])) _
    refine XS.lloadN X0.here hx rfl (hb hby d21_6) rfl ?_
    show Steps p.tables e below (s₁.setTop (mkF m 7 (LS_JsJsu q0 (q0 / (1000 : Int64))) [(.long q0)])) _
    refine X0.ldc2Long hx hown (mvT hZ (hw _ (List.mem_of_getElem? (i := 158) rfl))) (g := (mkF m 7 (LS_JsJsu q0 (q0 / (1000 : Int64))) [(.long q0)])) rfl (hb hby d21_7) _ ?_
    show Steps p.tables e below (s₁.setTop (mkF m 10 (LS_JsJsu q0 (q0 / (1000 : Int64))) [(.long (1000 : Int64)), (.long q0)])) _
    refine XS.lrem X0.here hx rfl (hb hby d21_10) rfl (by decide) ?_
    show Steps p.tables e below (s₁.setTop (mkF m 11 (LS_JsJsu q0 (q0 / (1000 : Int64))) [(.long (q0 - (q0 / (1000 : Int64)) * (1000 : Int64)))])) _
    refine XS.l2i X0.here hx rfl (hb hby d21_11) rfl ?_
    show Steps p.tables e below (s₁.setTop (mkF m 12 (LS_JsJsu q0 (q0 / (1000 : Int64))) [(.int ((q0 - (q0 / (1000 : Int64)) * (1000 : Int64)).toInt32))])) _
    refine XS.istore X0.here hx rfl (hb hby d21_12) rfl (l' := (LS_JsJsI q0 (q0 / (1000 : Int64)) ((q0 - (q0 / (1000 : Int64)) * (1000 : Int64)).toInt32))) rfl ?_
    show Steps p.tables e below (s₁.setTop (mkF m 14 (LS_JsJsI q0 (q0 / (1000 : Int64)) ((q0 - (q0 / (1000 : Int64)) * (1000 : Int64)).toInt32)) [])) _
    refine XS.iload X0.here hx rfl (hb hby d21_14) rfl ?_
    show Steps p.tables e below (s₁.setTop (mkF m 16 (LS_JsJsI q0 (q0 / (1000 : Int64)) ((q0 - (q0 / (1000 : Int64)) * (1000 : Int64)).toInt32)) [(.int ((q0 - (q0 / (1000 : Int64)) * (1000 : Int64)).toInt32))])) _
    refine XS.ifYes X0.here hx rfl (pc0 := 16) (pc' := 29) rfl (hb hby d21_16) rfl ((if0 _ _).trans (flt (own_ms hb1 hb2).1).2.1) (by decide) (by decide) ?_
    show Steps p.tables e below (s₁.setTop (mkF m 29 (LS_JsJsI q0 (q0 / (1000 : Int64)) ((q0 - (q0 / (1000 : Int64)) * (1000 : Int64)).toInt32)) [])) _
    refine XS.lloadN X0.here hx rfl (hb hby d21_29) rfl ?_
    show Steps p.tables e below (s₁.setTop (mkF m 30 (LS_JsJsI q0 (q0 / (1000 : Int64)) ((q0 - (q0 / (1000 : Int64)) * (1000 : Int64)).toInt32)) [(.long (q0 / (1000 : Int64)))])) _
    refine XS.iload X0.here hx rfl (hb hby d21_30) rfl ?_
    show Steps p.tables e below (s₁.setTop (mkF m 32 (LS_JsJsI q0 (q0 / (1000 : Int64)) ((q0 - (q0 / (1000 : Int64)) * (1000 : Int64)).toInt32)) [(.int ((q0 - (q0 / (1000 : Int64)) * (1000 : Int64)).toInt32)), (.long (q0 / (1000 : Int64)))])) _
    refine X0.ldcInt hx hown (mvT hZ (hw _ (List.mem_of_getElem? (i := 159) rfl))) (g := (mkF m 32 (LS_JsJsI q0 (q0 / (1000 : Int64)) ((q0 - (q0 / (1000 : Int64)) * (1000 : Int64)).toInt32)) [(.int ((q0 - (q0 / (1000 : Int64)) * (1000 : Int64)).toInt32)), (.long (q0 / (1000 : Int64)))])) rfl (hb hby d21_32) _ ?_
    show Steps p.tables e below (s₁.setTop (mkF m 34 (LS_JsJsI q0 (q0 / (1000 : Int64)) ((q0 - (q0 / (1000 : Int64)) * (1000 : Int64)).toInt32)) [(.int (1000000 : Int32)), (.int ((q0 - (q0 / (1000 : Int64)) * (1000 : Int64)).toInt32)), (.long (q0 / (1000 : Int64)))])) _
    refine XS.imul X0.here hx rfl (hb hby d21_34) rfl ?_
    exact k
  obtain ⟨_, _, ⟨T1, L1, k1, n1⟩, -, X1, ⟨Lc1, hQ1, l1, y1, z1⟩, st1⟩ := Jvm.LawKit.callS X0 hx (y := (⟨"java/time/Duration", "create", "(JI)Ljava/time/Duration;"⟩ : MethodName)) hown (mvT hZ (hw _ (List.mem_of_getElem? (i := 160) rfl))) (mvT hZ (hw _ (List.mem_of_getElem? (i := 161) rfl))) (mvT hZ (hw _ (List.mem_of_getElem? (i := 97) rfl))) (mvT hZ (hw _ (List.mem_of_getElem? (i := 162) rfl))) (by decide) (backOf (W := 0) (rmduc l Z a0 hw [] (q0 / (1000 : Int64)) (((q0 - (q0 / (1000 : Int64)) * (1000 : Int64)).toInt32) * (1000000 : Int32)) h0 n0 Z0 (own_ms hb1 hb2).2.1) hZ (hw _ (List.mem_of_getElem? (i := 162) rfl)) (hw _ (List.mem_of_getElem? (i := 97) rfl)) (by decide) (by decide)) (g := (mkF m 35 (LS_JsJsI q0 (q0 / (1000 : Int64)) ((q0 - (q0 / (1000 : Int64)) * (1000 : Int64)).toInt32)) [(.int (((q0 - (q0 / (1000 : Int64)) * (1000 : Int64)).toInt32) * (1000000 : Int32))), (.long (q0 / (1000 : Int64)))])) rfl (by rw [hml]; rfl) (argsL := [(.long (q0 / (1000 : Int64))), (.int (((q0 - (q0 / (1000 : Int64)) * (1000 : Int64)).toInt32) * (1000000 : Int32)))]) (rest := []) (lenOf pd__JI_Ljava_time_Duration_ rfl) rfl (by show 2 * 0 + _ ≤ _; exact Nat.le_of_eq rfl) (hb hby d21_35) (fun _ _ => ⟨rfl, e0, (by decide : 0 + 1 ≤ _), (by decide : 0 + 2 ≤ _)⟩)
  dsimp only [Pt.U, Pt.locs, Pt.cells, Pt.slots] at X1 l1 y1 z1 st1 hQ1
  subst l1 y1 z1
  obtain ⟨o1, rfl, N1q, hfr1, K1, Ef1, Fs1⟩ := hQ1
  have N1 := Fr.app N0 N1q
  have g_o1 : n0 ≤ o1 := Nat.le_trans Z0 hfr1
  have sz_o1 : h0.size ≤ o1 := Nat.le_trans K0.1 hfr1
  refine own_go (B := T1.setTop (mkF m 38 (LS_JsJsI q0 (q0 / (1000 : Int64)) ((q0 - (q0 / (1000 : Int64)) * (1000 : Int64)).toInt32)) [(.ref o1)])) (fun t k => st1 _ k) ?_
  obtain ⟨fs, hr, hrun, hended, hW, hsame⟩ := X1.leave (v := some (.ref o1)) (fun h => by rw [Bd.returns] at h; cases h)
  refine ⟨_, _, ?_, hrun, hended, _, _, rfl, ?_, ⟨_, rfl⟩, hW, hsame.mono (by decide) (by decide)⟩
  · show Steps p.tables e below (T1.setTop (mkF m 38 (LS_JsJsI q0 (q0 / (1000 : Int64)) ((q0 - (q0 / (1000 : Int64)) * (1000 : Int64)).toInt32)) [(.ref o1)])) _
    exact retOut X1 hx Bd.returns rfl (Or.inr (Or.inr (Or.inr (Or.inr ⟨rfl, rfl, rfl⟩)))) (hb hby d21_38) hr
  · show Qdum Z q0 h0 n0 _ T1.heap _
    have K0_v2 := K0.trans K1 all0
    exact ⟨o1, rfl, N1, sz_o1, K0_v2, Ef1, Fs1⟩
theorem ef_opi (m : MethodId) (r0 : Addr) (r1 : Addr) : entryFrame m #[(.ref r0), (.ref r1)] 2 = mkF m 0 #[.val (.ref r0), .val (.ref r1)] [] := by first | (simp [entryFrame, mkF, argsToLocals, Value.category]; done) | rfl
theorem pn_16 : plainName "java/util/Optional" = true := by first | (simp [plainName, overriddenIn]; done) | decide +kernel
theorem d16_0 : decode jdk_32_method_2_code 0 = .ok (.aload_n 0, 1) := by decide +kernel
theorem d16_1 : decode jdk_32_method_2_code 1 = .ok (.invokespecial 7, 3) := by decide +kernel
theorem d16_4 : decode jdk_32_method_2_code 4 = .ok (.aload_n 0, 1) := by decide +kernel
theorem d16_5 : decode jdk_32_method_2_code 5 = .ok (.aload_n 1, 1) := by decide +kernel
theorem d16_6 : decode jdk_32_method_2_code 6 = .ok (.putfield 13, 3) := by decide +kernel
theorem d16_9 : decode jdk_32_method_2_code 9 = .ok (.return_, 1) := by decide +kernel
def Qopi (Z : State) (r0 : Addr) (r1 : Addr) (h0 : Heap) (n0 : Nat) (v : Option Value) (h : Heap) (L : List Loc) : Prop := v = none ∧ Fr n0 L ∧ Keep h0 h [r0]
set_option maxRecDepth 65536 in
set_option maxHeartbeats 40000000 in
theorem rmopi (l : Launch) (Z : State) (a0 : Array Value) (hw : ∀ d ∈ tables_1, d.before a0 Z = true) (ws : List Jvm.Cond) (r0 : Addr) (r1 : Addr) (h0 : Heap) (n0 : Nat) (Z0 : n0 ≤ h0.size) (E0 : Exa Z h0 r0 "java/util/Optional") (F1 : Fld Z h0 r0 "java/util/Optional" "value" "Ljava/lang/Object;" .null) (g_r0 : n0 ≤ r0) :
    MetFree l (⟨"java/util/Optional", "<init>", "(Ljava/lang/Object;)V"⟩ : MethodName) (head1 (Jvm.Cond.code (⟨"java/util/Optional", "<init>", "(Ljava/lang/Object;)V"⟩ : MethodName) jdk_32_method_2_code 2 none :: ws) ({ frames := 1, cells := 0, slots := 0, locals := 12 } : Room)) (fun a U => a = #[(.ref r0), (.ref r1)] ∧ Z.Warmed39 U.vm ∧ U.heap = h0) (fun _ _ _ _ _ => True) (fun _ U o U' => ∃ v L, o = .returned v ∧ Qopi Z r0 r1 h0 n0 v U'.heap L ∧ FrameEnd U o U' L ({ frames := 1, cells := 0, slots := 0, locals := 12 } : Room).cells ({ frames := 1, cells := 0, slots := 0, locals := 12 } : Room).slots) := by
  refine MetFree.of_bodySF (plainFor_of_name pn_16) hisR ?_
  intro p e s m args below meth c s₁ Bd hml0 hP hK
  obtain ⟨rfl, hZ, hh⟩ := hP
  have hx := Bd.exec
  have hby := Bd.bytes
  have hml : c.maxLocals = 2 := hml0
  have hown : s.vm.findClass "java/util/Optional" = some m.cls := findClass_of_methodNamed Bd.named
  have hnm := (name_of_methodNamed Bd.named Bd.method).1
  have X0 : Stand p l e ({ frames := 1, cells := 0, slots := 0, locals := 12 } : Room) s m #[(.ref r0), (.ref r1)] below meth c s₁ [] 0 0 := Stand.of_body Bd
  have e0 : s₁.heap = h0 := by rw [← hh, Bd.state]; rfl
  have N0 := Fr.nil n0
  refine own_go (B := s₁.setTop (mkF m 0 (LS_RR r0 r1) [])) (fun t k => castTop (ef_opi m r0 r1) k) ?_
  have K0 : Keep h0 h0 [r0] := Keep.refl _ _
  refine own_go (B := s₁.setTop (mkF m 1 (LS_RR r0 r1) [(.ref r0)])) (fun t k => ?_) ?_
  · show Steps p.tables e below (s₁.setTop (mkF m 0 (LS_RR r0 r1) [])) _
    refine XS.aloadN X0.here hx rfl (hb hby d16_0) rfl rfl ?_
    exact k
  obtain ⟨T1, X1, e1, st1⟩ := initO X0 hx hZ hown (hw _ (List.mem_of_getElem? (i := 116) rfl)) (hw _ (List.mem_of_getElem? (i := 42) rfl)) (hw _ (List.mem_of_getElem? (i := 43) rfl)) e0 (g := (mkF m 1 (LS_RR r0 r1) [(.ref r0)])) rfl (by rw [hml]; rfl) rfl (hb hby d16_1) (by decide) (W := 0) (by show 2 * 0 + _ ≤ _; exact Nat.le_of_eq rfl) (by decide)
  refine own_go (B := T1.setTop (mkF m 4 (LS_RR r0 r1) [])) (fun t k => st1 _ k) ?_
  refine own_go (B := T1.setTop (mkF m 6 (LS_RR r0 r1) [(.ref r1), (.ref r0)])) (fun t k => ?_) ?_
  · show Steps p.tables e below (T1.setTop (mkF m 4 (LS_RR r0 r1) [])) _
    refine XS.aloadN X1.here hx rfl (hb hby d16_4) rfl rfl ?_
    show Steps p.tables e below (T1.setTop (mkF m 5 (LS_RR r0 r1) [(.ref r0)])) _
    refine XS.aloadN X1.here hx rfl (hb hby d16_5) rfl rfl ?_
    exact k
  obtain ⟨T2, h2, X2, e2, W2, st2⟩ := putF X1 hx hZ hown (host := "") (Or.inl (hw _ (List.mem_of_getElem? (i := 117) rfl))) Via.refl e1 F1 E0 (Or.inr ⟨(hw _ (List.mem_of_getElem? (i := 118) rfl)), rfl, hnm⟩) (hw _ (List.mem_of_getElem? (i := 108) rfl)) (ty := (.object "java/lang/Object")) (by decide) rfl rfl (g := (mkF m 6 (LS_RR r0 r1) [(.ref r1), (.ref r0)])) rfl rfl (hb hby d16_6)
  have N2 := Fr.snoc X2 N0 g_r0
  have Fw2 := F1.same W2
  refine own_go (B := T2.setTop (mkF m 9 (LS_RR r0 r1) [])) (fun t k => st2 _ k) ?_
  obtain ⟨fs, hr, hrun, hended, hW, hsame⟩ := X2.leave (v := none) (fun _ => rfl)
  refine ⟨_, _, ?_, hrun, hended, _, _, rfl, ?_, ⟨_, rfl⟩, hW, hsame.mono (by decide) (by decide)⟩
  · show Steps p.tables e below (T2.setTop (mkF m 9 (LS_RR r0 r1) [])) _
    exact X2.returnOut hx Bd.returns (hb hby d16_9) hr
  · show Qopi Z r0 r1 h0 n0 _ T2.heap _
    rw [e2]
    have K0_v3 := K0.wr W2 (Or.inl (List.mem_of_getElem? (i := 0) rfl))
    exact ⟨rfl, N2, K0_v3⟩
theorem ef_opo (m : MethodId) (r0 : Addr) : entryFrame m #[(.ref r0)] 1 = mkF m 0 #[.val (.ref r0)] [] := by first | (simp [entryFrame, mkF, argsToLocals, Value.category]; done) | rfl
theorem pn_14 : plainName "java/util/Optional" = true := by first | (simp [plainName, overriddenIn]; done) | decide +kernel
theorem d14_0 : decode jdk_32_method_3_code 0 = .ok (.new 2, 3) := by decide +kernel
theorem d14_3 : decode jdk_32_method_3_code 3 = .ok (.dup, 1) := by decide +kernel
theorem d14_4 : decode jdk_32_method_3_code 4 = .ok (.aload_n 0, 1) := by decide +kernel
theorem d14_5 : decode jdk_32_method_3_code 5 = .ok (.invokestatic 17, 3) := by decide +kernel
theorem pd__Ljava_lang_Object__Ljava_lang_Object_ : parseMethodDescriptor "(Ljava/lang/Object;)Ljava/lang/Object;" = some ⟨[(.object "java/lang/Object")], some (.object "java/lang/Object")⟩ := by decide +kernel
theorem d14_8 : decode jdk_32_method_3_code 8 = .ok (.invokespecial 23, 3) := by decide +kernel
theorem pd__Ljava_lang_Object__V : parseMethodDescriptor "(Ljava/lang/Object;)V" = some ⟨[(.object "java/lang/Object")], none⟩ := by decide +kernel
theorem d14_11 : decode jdk_32_method_3_code 11 = .ok (.areturn, 1) := by decide +kernel
def Qopo (Z : State) (r0 : Addr) (h0 : Heap) (n0 : Nat) (v : Option Value) (h : Heap) (L : List Loc) : Prop := ∃ r : Addr, v = some (.ref r) ∧ Fr n0 L ∧ h0.size ≤ r ∧ Keep h0 h []
set_option maxRecDepth 65536 in
set_option maxHeartbeats 40000000 in
theorem rmopo (l : Launch) (Z : State) (a0 : Array Value) (hw : ∀ d ∈ tables_1, d.before a0 Z = true) (ws : List Jvm.Cond) (r0 : Addr) (h0 : Heap) (n0 : Nat) (Z0 : n0 ≤ h0.size) :
    MetFree l (⟨"java/util/Optional", "of", "(Ljava/lang/Object;)Ljava/util/Optional;"⟩ : MethodName) (head1 (Jvm.Cond.code (⟨"java/util/Optional", "of", "(Ljava/lang/Object;)Ljava/util/Optional;"⟩ : MethodName) jdk_32_method_3_code 1 (some (.object "java/util/Optional")) :: ws) ({ frames := 2, cells := 1, slots := 1, locals := 27 } : Room)) (fun a U => a = #[(.ref r0)] ∧ Z.Warmed39 U.vm ∧ U.heap = h0) (fun _ _ _ _ _ => True) (fun _ U o U' => ∃ v L, o = .returned v ∧ Qopo Z r0 h0 n0 v U'.heap L ∧ FrameEnd U o U' L ({ frames := 2, cells := 1, slots := 1, locals := 27 } : Room).cells ({ frames := 2, cells := 1, slots := 1, locals := 27 } : Room).slots) := by
  refine MetFree.of_bodySF (plainFor_of_name pn_14) hisR ?_
  intro p e s m args below meth c s₁ Bd hml0 hP hK
  obtain ⟨rfl, hZ, hh⟩ := hP
  have hx := Bd.exec
  have hby := Bd.bytes
  have hml : c.maxLocals = 1 := hml0
  have hown : s.vm.findClass "java/util/Optional" = some m.cls := findClass_of_methodNamed Bd.named
  have hnm := (name_of_methodNamed Bd.named Bd.method).1
  have X0 : Stand p l e ({ frames := 2, cells := 1, slots := 1, locals := 27 } : Room) s m #[(.ref r0)] below meth c s₁ [] 0 0 := Stand.of_body Bd
  have e0 : s₁.heap = h0 := by rw [← hh, Bd.state]; rfl
  have N0 := Fr.nil n0
  refine own_go (B := s₁.setTop (mkF m 0 (LS_R r0) [])) (fun t k => castTop (ef_opo m r0) k) ?_
  have K0 : Keep h0 h0 [] := Keep.refl _ _
  obtain ⟨T1, h1, X1, e1, E1, A1, D1, -, st1⟩ := newO X0 hx hZ hown (hw _ (List.mem_of_getElem? (i := 107) rfl)) (hw _ (List.mem_of_getElem? (i := 108) rfl)) (hw _ (List.mem_of_getElem? (i := 105) rfl)) e0 (g := (mkF m 0 (LS_R r0) [])) rfl (hb hby d14_0) (by decide) (by decide)
  obtain ⟨b1, g1⟩ : ∃ z, z = h0.size := ⟨_, rfl⟩
  rw [← g1] at A1 D1 st1
  have g_b1 : n0 ≤ b1 := Nat.le_trans Z0 (Nat.le_of_eq g1.symm)
  have sz_b1 : h0.size ≤ b1 := Nat.le_trans K0.1 (Nat.le_of_eq g1.symm)
  have F1_value : Fld Z h1 b1 "java/util/Optional" "value" "Ljava/lang/Object;" .null := D1 (Or.inr (hw _ (List.mem_of_getElem? (i := 118) rfl))) (ty := (.object "java/lang/Object")) (by decide)
  refine own_go (B := T1.setTop (mkF m 3 (LS_R r0) [(.ref b1)])) (fun t k => st1 _ k) ?_
  refine own_go (B := T1.setTop (mkF m 5 (LS_R r0) [(.ref r0), (.ref b1), (.ref b1)])) (fun t k => ?_) ?_
  · show Steps p.tables e below (T1.setTop (mkF m 3 (LS_R r0) [(.ref b1)])) _
    refine XS.dup X1.here hx rfl (hb hby d14_3) rfl rfl ?_
    show Steps p.tables e below (T1.setTop (mkF m 4 (LS_R r0) [(.ref b1), (.ref b1)])) _
    refine XS.aloadN X1.here hx rfl (hb hby d14_4) rfl rfl ?_
    exact k
  have Z0_v2 := Nat.le_trans Z0 E1.1
  obtain ⟨_, _, ⟨T3, L3, k3, n3⟩, -, X3, ⟨Lc3, hQ3, l3, y3, z3⟩, st3⟩ := Jvm.LawKit.callS X1 hx (y := (⟨"java/util/Objects", "requireNonNull", "(Ljava/lang/Object;)Ljava/lang/Object;"⟩ : MethodName)) hown (mvT hZ (hw _ (List.mem_of_getElem? (i := 109) rfl))) (mvT hZ (hw _ (List.mem_of_getElem? (i := 110) rfl))) (mvT hZ (hw _ (List.mem_of_getElem? (i := 47) rfl))) (mvT hZ (hw _ (List.mem_of_getElem? (i := 111) rfl))) (by decide) (backOf (W := 2) (rmrn1 l Z a0 hw [] r0 h1 n0 Z0_v2) hZ (hw _ (List.mem_of_getElem? (i := 111) rfl)) (hw _ (List.mem_of_getElem? (i := 47) rfl)) (by decide) (by decide)) (g := (mkF m 5 (LS_R r0) [(.ref r0), (.ref b1), (.ref b1)])) rfl (by rw [hml]; rfl) (argsL := [(.ref r0)]) (rest := [(.ref b1), (.ref b1)]) (lenOf pd__Ljava_lang_Object__Ljava_lang_Object_ rfl) rfl (by show 2 * 0 + _ ≤ _; exact Nat.le_of_eq rfl) (hb hby d14_5) (fun _ _ => ⟨rfl, e1, (by decide : 1 + 0 ≤ _), (by decide : 1 + 0 ≤ _)⟩)
  dsimp only [Pt.U, Pt.locs, Pt.cells, Pt.slots] at X3 l3 y3 z3 st3 hQ3
  subst l3 y3 z3
  obtain ⟨rfl, N3q, e3⟩ := hQ3
  have N3 := Fr.app N0 N3q
  refine own_go (B := T3.setTop (mkF m 8 (LS_R r0) [(.ref r0), (.ref b1), (.ref b1)])) (fun t k => st3 _ k) ?_
  obtain ⟨_, _, ⟨T4, L4, k4, n4⟩, -, X4, ⟨Lc4, hQ4, l4, y4, z4⟩, st4⟩ := X3.specialBack hx (y := (⟨"java/util/Optional", "<init>", "(Ljava/lang/Object;)V"⟩ : MethodName)) rfl hown (mvT hZ (hw _ (List.mem_of_getElem? (i := 112) rfl))) (mvT hZ (hw _ (List.mem_of_getElem? (i := 113) rfl))) (mvT hZ (hw _ (List.mem_of_getElem? (i := 115) rfl))) (by decide) (backOf (W := 1) (rmopi l Z a0 hw [] b1 r0 h1 n0 Z0_v2 A1 F1_value g_b1) hZ (hw _ (List.mem_of_getElem? (i := 115) rfl)) (hw _ (List.mem_of_getElem? (i := 105) rfl)) (by decide) (by decide)) (g := (mkF m 8 (LS_R r0) [(.ref r0), (.ref b1), (.ref b1)])) rfl (by rw [hml]; rfl) (Steps.refl _) (a := b1) (argsL := [(.ref r0)]) (rest := [(.ref b1)]) (lenOf pd__Ljava_lang_Object__V rfl) rfl (by show 2 * 0 + _ ≤ _; exact Nat.le_of_eq rfl) (hb hby d14_8) (fun _ _ => ⟨rfl, e3, (by decide : 1 + 0 ≤ _), (by decide : 1 + 0 ≤ _)⟩)
  dsimp only [Pt.U, Pt.locs, Pt.cells, Pt.slots] at X4 l4 y4 z4 st4 hQ4
  subst l4 y4 z4
  obtain ⟨rfl, N4q, K4⟩ := hQ4
  have N4 := Fr.app N3 N4q
  refine own_go (B := T4.setTop (mkF m 11 (LS_R r0) [(.ref b1)])) (fun t k => st4.trans k) ?_
  obtain ⟨fs, hr, hrun, hended, hW, hsame⟩ := X4.leave (v := some (.ref b1)) (fun h => by rw [Bd.returns] at h; cases h)
  refine ⟨_, _, ?_, hrun, hended, _, _, rfl, ?_, ⟨_, rfl⟩, hW, hsame.mono (by decide) (by decide)⟩
  · show Steps p.tables e below (T4.setTop (mkF m 11 (LS_R r0) [(.ref b1)])) _
    exact retOut X4 hx Bd.returns rfl (Or.inr (Or.inr (Or.inr (Or.inr ⟨rfl, rfl, rfl⟩)))) (hb hby d14_11) hr
  · show Qopo Z r0 h0 n0 _ T4.heap _
    have K0_v5 := K0.ext E1
    have K0_v6 := K0_v5.trans K4 (allS (Or.inr sz_b1) all0)
    exact ⟨b1, rfl, N4, sz_b1, K0_v6⟩
theorem ef_dei (m : MethodId) (r0 : Addr) (p1 : Int32) (r2 : Addr) (p3 : Int32) (r4 : Addr) (r5 : Addr) (p6 : Int32) : entryFrame m #[(.ref r0), (.int p1), (.ref r2), (.int p3), (.ref r4), (.ref r5), (.int p6)] 7 = mkF m 0 #[.val (.ref r0), .val (.int p1), .val (.ref r2), .val (.int p3), .val (.ref r4), .val (.ref r5), .val (.int p6)] [] := by first | (simp [entryFrame, mkF, argsToLocals, Value.category]; done) | rfl
theorem pn_17 : plainName "com/example/blend2/blend2/Decision" = true := by first | (simp [plainName, overriddenIn]; done) | decide +kernel
abbrev LS_RIRIRRI (a0 : Addr) (a1 : Int32) (a2 : Addr) (a3 : Int32) (a4 : Addr) (a5 : Addr) (a6 : Int32) : Array Slot := #[.val (.ref a0), .val (.int a1), .val (.ref a2), .val (.int a3), .val (.ref a4), .val (.ref a5), .val (.int a6)]
theorem d17_0 : decode prog_2_method_1_code 0 = .ok (.aload_n 0, 1) := by decide +kernel
theorem d17_1 : decode prog_2_method_1_code 1 = .ok (.invokespecial 1, 3) := by decide +kernel
theorem pd___V : parseMethodDescriptor "()V" = some ⟨[], none⟩ := by decide +kernel
theorem d17_4 : decode prog_2_method_1_code 4 = .ok (.aload_n 2, 1) := by decide +kernel
theorem d17_5 : decode prog_2_method_1_code 5 = .ok (.ldc 7, 2) := by decide +kernel
theorem d17_7 : decode prog_2_method_1_code 7 = .ok (.invokestatic 9, 3) := by decide +kernel
theorem pd__Ljava_lang_Object_Ljava_lang_String__Ljava_lang_Object_ : parseMethodDescriptor "(Ljava/lang/Object;Ljava/lang/String;)Ljava/lang/Object;" = some ⟨[(.object "java/lang/Object"), (.object "java/lang/String")], some (.object "java/lang/Object")⟩ := by decide +kernel
theorem d17_10 : decode prog_2_method_1_code 10 = .ok (.pop, 1) := by decide +kernel
theorem d17_11 : decode prog_2_method_1_code 11 = .ok (.aload 4, 2) := by decide +kernel
theorem d17_13 : decode prog_2_method_1_code 13 = .ok (.ldc 15, 2) := by decide +kernel
theorem d17_15 : decode prog_2_method_1_code 15 = .ok (.invokestatic 9, 3) := by decide +kernel
theorem d17_18 : decode prog_2_method_1_code 18 = .ok (.pop, 1) := by decide +kernel
theorem d17_19 : decode prog_2_method_1_code 19 = .ok (.aload 5, 2) := by decide +kernel
theorem d17_21 : decode prog_2_method_1_code 21 = .ok (.ldc 17, 2) := by decide +kernel
theorem d17_23 : decode prog_2_method_1_code 23 = .ok (.invokestatic 9, 3) := by decide +kernel
theorem d17_26 : decode prog_2_method_1_code 26 = .ok (.pop, 1) := by decide +kernel
theorem d17_27 : decode prog_2_method_1_code 27 = .ok (.iload_n 3, 1) := by decide +kernel
theorem d17_28 : decode prog_2_method_1_code 28 = .ok (.ifCond .ge 17, 3) := by decide +kernel
theorem d17_45 : decode prog_2_method_1_code 45 = .ok (.aload 4, 2) := by decide +kernel
theorem d17_47 : decode prog_2_method_1_code 47 = .ok (.invokevirtual 28, 3) := by decide +kernel
theorem pd___Z : parseMethodDescriptor "()Z" = some ⟨[], some .boolean⟩ := by decide +kernel
theorem d17_50 : decode prog_2_method_1_code 50 = .ok (.ifCond .eq 21, 3) := by decide +kernel
theorem d17_71 : decode prog_2_method_1_code 71 = .ok (.aload 5, 2) := by decide +kernel
theorem d17_73 : decode prog_2_method_1_code 73 = .ok (.invokevirtual 28, 3) := by decide +kernel
theorem d17_76 : decode prog_2_method_1_code 76 = .ok (.ifCond .eq 21, 3) := by decide +kernel
theorem d17_97 : decode prog_2_method_1_code 97 = .ok (.aload_n 0, 1) := by decide +kernel
theorem d17_98 : decode prog_2_method_1_code 98 = .ok (.iload_n 1, 1) := by decide +kernel
theorem d17_99 : decode prog_2_method_1_code 99 = .ok (.putfield 44, 3) := by decide +kernel
theorem d17_102 : decode prog_2_method_1_code 102 = .ok (.aload_n 0, 1) := by decide +kernel
theorem d17_103 : decode prog_2_method_1_code 103 = .ok (.aload_n 2, 1) := by decide +kernel
theorem d17_104 : decode prog_2_method_1_code 104 = .ok (.putfield 50, 3) := by decide +kernel
theorem d17_107 : decode prog_2_method_1_code 107 = .ok (.aload_n 0, 1) := by decide +kernel
theorem d17_108 : decode prog_2_method_1_code 108 = .ok (.iload_n 3, 1) := by decide +kernel
theorem d17_109 : decode prog_2_method_1_code 109 = .ok (.putfield 53, 3) := by decide +kernel
theorem d17_112 : decode prog_2_method_1_code 112 = .ok (.aload_n 0, 1) := by decide +kernel
theorem d17_113 : decode prog_2_method_1_code 113 = .ok (.aload 4, 2) := by decide +kernel
theorem d17_115 : decode prog_2_method_1_code 115 = .ok (.putfield 57, 3) := by decide +kernel
theorem d17_118 : decode prog_2_method_1_code 118 = .ok (.aload_n 0, 1) := by decide +kernel
theorem d17_119 : decode prog_2_method_1_code 119 = .ok (.aload 5, 2) := by decide +kernel
theorem d17_121 : decode prog_2_method_1_code 121 = .ok (.putfield 60, 3) := by decide +kernel
theorem d17_124 : decode prog_2_method_1_code 124 = .ok (.aload_n 0, 1) := by decide +kernel
theorem d17_125 : decode prog_2_method_1_code 125 = .ok (.iload 6, 2) := by decide +kernel
theorem d17_127 : decode prog_2_method_1_code 127 = .ok (.putfield 62, 3) := by decide +kernel
theorem d17_130 : decode prog_2_method_1_code 130 = .ok (.return_, 1) := by decide +kernel
def Qdei (Z : State) (r0 : Addr) (p1 : Int32) (r2 : Addr) (p3 : Int32) (r4 : Addr) (r5 : Addr) (p6 : Int32) (q1 q2 : Int64) (h0 : Heap) (n0 : Nat) (v : Option Value) (h : Heap) (L : List Loc) : Prop := v = none ∧ Fr n0 L ∧ Keep h0 h [r0]
set_option maxRecDepth 65536 in
set_option maxHeartbeats 40000000 in
theorem rmdei (l : Launch) (Z : State) (a0 : Array Value) (hw : ∀ d ∈ tables_1, d.before a0 Z = true) (ws : List Jvm.Cond) (r0 : Addr) (p1 : Int32) (r2 : Addr) (p3 : Int32) (r4 : Addr) (r5 : Addr) (p6 : Int32) (q1 q2 : Int64) (h0 : Heap) (n0 : Nat) (Z0 : n0 ≤ h0.size) (E0 : Exa Z h0 r0 "com/example/blend2/blend2/Decision") (F0 : Fld Z h0 r0 "com/example/blend2/blend2/Decision" "allowed" "Z" (.int (0 : Int32))) (F1 : Fld Z h0 r0 "com/example/blend2/blend2/Decision" "rule" "Ljava/util/Optional;" .null) (F2 : Fld Z h0 r0 "com/example/blend2/blend2/Decision" "remaining" "I" (.int (0 : Int32))) (F3 : Fld Z h0 r0 "com/example/blend2/blend2/Decision" "retryAfter" "Ljava/time/Duration;" .null) (F4 : Fld Z h0 r0 "com/example/blend2/blend2/Decision" "delay" "Ljava/time/Duration;" .null) (F5 : Fld Z h0 r0 "com/example/blend2/blend2/Decision" "degraded" "Z" (.int (0 : Int32))) (De1 : Fld Z h0 r4 "java/time/Duration" "seconds" "J" (.long q1)) (Xe1 : Exa Z h0 r4 "java/time/Duration") (hq1 : ¬ (q1 < (0 : Int64))) (De2 : Fld Z h0 r5 "java/time/Duration" "seconds" "J" (.long q2)) (Xe2 : Exa Z h0 r5 "java/time/Duration") (hq2 : ¬ (q2 < (0 : Int64))) (hrem : ¬ (p3 < (0 : Int32))) (g_r0 : n0 ≤ r0) :
    MetFree l (⟨"com/example/blend2/blend2/Decision", "<init>", "(ZLjava/util/Optional;ILjava/time/Duration;Ljava/time/Duration;Z)V"⟩ : MethodName) (head1 (Jvm.Cond.code (⟨"com/example/blend2/blend2/Decision", "<init>", "(ZLjava/util/Optional;ILjava/time/Duration;Ljava/time/Duration;Z)V"⟩ : MethodName) prog_2_method_1_code 7 none :: ws) ({ frames := 2, cells := 6, slots := 88, locals := 40 } : Room)) (fun a U => a = #[(.ref r0), (.int p1), (.ref r2), (.int p3), (.ref r4), (.ref r5), (.int p6)] ∧ Z.Warmed39 U.vm ∧ U.heap = h0) (fun _ _ _ _ _ => True) (fun _ U o U' => ∃ v L, o = .returned v ∧ Qdei Z r0 p1 r2 p3 r4 r5 p6 q1 q2 h0 n0 v U'.heap L ∧ ReturnedEndW U o U' L ({ frames := 2, cells := 6, slots := 88, locals := 40 } : Room).cells ({ frames := 2, cells := 6, slots := 88, locals := 40 } : Room).slots) := by
  refine MetFree.of_bodySF (plainFor_of_name pn_17) hisR ?_
  intro p e s m args below meth c s₁ Bd hml0 hP hK
  obtain ⟨rfl, hZ, hh⟩ := hP
  have hx := Bd.exec
  have hby := Bd.bytes
  have hml : c.maxLocals = 7 := hml0
  have hown : s.vm.findClass "com/example/blend2/blend2/Decision" = some m.cls := findClass_of_methodNamed Bd.named
  have hnm := (name_of_methodNamed Bd.named Bd.method).1
  have X0 : Stand p l e ({ frames := 2, cells := 6, slots := 88, locals := 40 } : Room) s m #[(.ref r0), (.int p1), (.ref r2), (.int p3), (.ref r4), (.ref r5), (.int p6)] below meth c s₁ [] 0 0 := Stand.of_body Bd
  have e0 : s₁.heap = h0 := by rw [← hh, Bd.state]; rfl
  have N0 := Fr.nil n0
  refine own_go (B := s₁.setTop (mkF m 0 (LS_RIRIRRI r0 p1 r2 p3 r4 r5 p6) [])) (fun t k => castTop (ef_dei m r0 p1 r2 p3 r4 r5 p6) k) ?_
  have hS0 : s.Since s.vm 0 := (State.WarmedH.refl s).since 0
  have hk0 : 0 ≤ Array.size h0 := Nat.zero_le _
  have K0 : Keep h0 h0 [r0] := Keep.refl _ _
  refine own_go (B := s₁.setTop (mkF m 1 (LS_RIRIRRI r0 p1 r2 p3 r4 r5 p6) [(.ref r0)])) (fun t k => ?_) ?_
  · show Steps p.tables e below (s₁.setTop (mkF m 0 (LS_RIRIRRI r0 p1 r2 p3 r4 r5 p6) [])) _
    refine XS.aloadN X0.here hx rfl (hb hby d17_0) rfl rfl ?_
    exact k
  obtain ⟨_, _, ⟨T1, L1, k1, n1⟩, -, X1, ⟨Lc1, hQ1, l1, y1, z1⟩, st1⟩ := X0.specialBack hx (y := (⟨"java/lang/Record", "<init>", "()V"⟩ : MethodName)) rfl hown (mvT hZ (hw _ (List.mem_of_getElem? (i := 122) rfl))) (mvT hZ (hw _ (List.mem_of_getElem? (i := 37) rfl))) (mvT hZ (hw _ (List.mem_of_getElem? (i := 40) rfl))) (by decide) (backOf (W := 0) (rmrec l Z a0 hw [] r0 h0 n0 Z0) hZ (hw _ (List.mem_of_getElem? (i := 40) rfl)) (hw _ (List.mem_of_getElem? (i := 39) rfl)) (by decide) (by decide)) (g := (mkF m 1 (LS_RIRIRRI r0 p1 r2 p3 r4 r5 p6) [(.ref r0)])) rfl (by rw [hml]; rfl) (Steps.refl _) (a := r0) (argsL := []) (rest := []) (lenOf pd___V rfl) rfl (by show 2 * 0 + _ ≤ _; exact Nat.le_of_eq rfl) (hb hby d17_1) (fun _ _ => ⟨rfl, e0, (by decide : 0 + 0 ≤ _), (by decide : 0 + 0 ≤ _)⟩)
  dsimp only [Pt.U, Pt.locs, Pt.cells, Pt.slots] at X1 l1 y1 z1 st1 hQ1
  subst l1 y1 z1
  obtain ⟨rfl, N1q, e1⟩ := hQ1
  have N1 := Fr.app N0 N1q
  refine own_go (B := T1.setTop (mkF m 4 (LS_RIRIRRI r0 p1 r2 p3 r4 r5 p6) [])) (fun t k => st1.trans k) ?_
  refine own_go (B := T1.setTop (mkF m 5 (LS_RIRIRRI r0 p1 r2 p3 r4 r5 p6) [(.ref r2)])) (fun t k => ?_) ?_
  · show Steps p.tables e below (T1.setTop (mkF m 4 (LS_RIRIRRI r0 p1 r2 p3 r4 r5 p6) [])) _
    refine XS.aloadN X1.here hx rfl (hb hby d17_4) rfl rfl ?_
    exact k
  obtain ⟨sa2, T2, h2, kk2, X2, e2, E2, hS2, hk2, hZ2, ho2, st2⟩ := ldcS (s := s) (vm0 := s.vm) X1 hx hZ hown (hw _ (List.mem_of_getElem? (i := 123) rfl)) (own_strs hw) e1 hS0 hk0 (g := (mkF m 5 (LS_RIRIRRI r0 p1 r2 p3 r4 r5 p6) [(.ref r2)])) rfl (hb hby d17_5) (n := 16) (by decide) (by decide) (by decide) (by decide)
  refine own_go (B := T2.setTop (mkF m 7 (LS_RIRIRRI r0 p1 r2 p3 r4 r5 p6) [(.ref sa2), (.ref r2)])) (fun t k => st2 _ k) ?_
  have Z0_v3 := Nat.le_trans Z0 E2.1
  obtain ⟨_, _, ⟨T4, L4, k4, n4⟩, -, X4, ⟨Lc4, hQ4, l4, y4, z4⟩, st4⟩ := Jvm.LawKit.callS X2 hx (y := (⟨"java/util/Objects", "requireNonNull", "(Ljava/lang/Object;Ljava/lang/String;)Ljava/lang/Object;"⟩ : MethodName)) ho2 (mvT hZ2 (hw _ (List.mem_of_getElem? (i := 124) rfl))) (mvT hZ2 (hw _ (List.mem_of_getElem? (i := 46) rfl))) (mvT hZ2 (hw _ (List.mem_of_getElem? (i := 47) rfl))) (mvT hZ2 (hw _ (List.mem_of_getElem? (i := 48) rfl))) (by decide) (backOf (W := 0) (rmrn2 l Z a0 hw [] r2 sa2 h2 n0 Z0_v3) hZ2 (hw _ (List.mem_of_getElem? (i := 48) rfl)) (hw _ (List.mem_of_getElem? (i := 47) rfl)) (by decide) (by decide)) (g := (mkF m 7 (LS_RIRIRRI r0 p1 r2 p3 r4 r5 p6) [(.ref sa2), (.ref r2)])) rfl (by rw [hml]; rfl) (argsL := [(.ref r2), (.ref sa2)]) (rest := []) (lenOf pd__Ljava_lang_Object_Ljava_lang_String__Ljava_lang_Object_ rfl) rfl (by show 2 * 0 + _ ≤ _; exact Nat.le_of_eq rfl) (hb hby d17_7) (fun _ _ => ⟨rfl, e2, (by decide : 2 + 0 ≤ _), (by decide : 20 + 0 ≤ _)⟩)
  dsimp only [Pt.U, Pt.locs, Pt.cells, Pt.slots] at X4 l4 y4 z4 st4 hQ4
  subst l4 y4 z4
  obtain ⟨rfl, N4q, e4⟩ := hQ4
  have N4 := Fr.app N1 N4q
  refine own_go (B := T4.setTop (mkF m 10 (LS_RIRIRRI r0 p1 r2 p3 r4 r5 p6) [(.ref r2)])) (fun t k => st4 _ k) ?_
  refine own_go (B := T4.setTop (mkF m 13 (LS_RIRIRRI r0 p1 r2 p3 r4 r5 p6) [(.ref r4)])) (fun t k => ?_) ?_
  · show Steps p.tables e below (T4.setTop (mkF m 10 (LS_RIRIRRI r0 p1 r2 p3 r4 r5 p6) [(.ref r2)])) _
    refine XS.pop X4.here hx rfl (hb hby d17_10) rfl rfl ?_
    show Steps p.tables e below (T4.setTop (mkF m 11 (LS_RIRIRRI r0 p1 r2 p3 r4 r5 p6) [])) _
    refine XS.aload X4.here hx rfl (hb hby d17_11) rfl rfl ?_
    exact k
  obtain ⟨sa5, T5, h5, kk5, X5, e5, E5, hS5, hk5, hZ5, ho5, st5⟩ := ldcS (s := s) (vm0 := T2.vm) X4 hx hZ2 ho2 (hw _ (List.mem_of_getElem? (i := 125) rfl)) (own_strs hw) e4 hS2 hk2 (g := (mkF m 13 (LS_RIRIRRI r0 p1 r2 p3 r4 r5 p6) [(.ref r4)])) rfl (hb hby d17_13) (n := 40) (by decide) (by decide) (by decide) (by decide)
  refine own_go (B := T5.setTop (mkF m 15 (LS_RIRIRRI r0 p1 r2 p3 r4 r5 p6) [(.ref sa5), (.ref r4)])) (fun t k => st5 _ k) ?_
  have Z0_v6 := Nat.le_trans Z0_v3 E5.1
  obtain ⟨_, _, ⟨T7, L7, k7, n7⟩, -, X7, ⟨Lc7, hQ7, l7, y7, z7⟩, st7⟩ := Jvm.LawKit.callS X5 hx (y := (⟨"java/util/Objects", "requireNonNull", "(Ljava/lang/Object;Ljava/lang/String;)Ljava/lang/Object;"⟩ : MethodName)) ho5 (mvT hZ5 (hw _ (List.mem_of_getElem? (i := 124) rfl))) (mvT hZ5 (hw _ (List.mem_of_getElem? (i := 46) rfl))) (mvT hZ5 (hw _ (List.mem_of_getElem? (i := 47) rfl))) (mvT hZ5 (hw _ (List.mem_of_getElem? (i := 48) rfl))) (by decide) (backOf (W := 0) (rmrn2 l Z a0 hw [] r4 sa5 h5 n0 Z0_v6) hZ5 (hw _ (List.mem_of_getElem? (i := 48) rfl)) (hw _ (List.mem_of_getElem? (i := 47) rfl)) (by decide) (by decide)) (g := (mkF m 15 (LS_RIRIRRI r0 p1 r2 p3 r4 r5 p6) [(.ref sa5), (.ref r4)])) rfl (by rw [hml]; rfl) (argsL := [(.ref r4), (.ref sa5)]) (rest := []) (lenOf pd__Ljava_lang_Object_Ljava_lang_String__Ljava_lang_Object_ rfl) rfl (by show 2 * 0 + _ ≤ _; exact Nat.le_of_eq rfl) (hb hby d17_15) (fun _ _ => ⟨rfl, e5, (by decide : 4 + 0 ≤ _), (by decide : 64 + 0 ≤ _)⟩)
  dsimp only [Pt.U, Pt.locs, Pt.cells, Pt.slots] at X7 l7 y7 z7 st7 hQ7
  subst l7 y7 z7
  obtain ⟨rfl, N7q, e7⟩ := hQ7
  have N7 := Fr.app N4 N7q
  refine own_go (B := T7.setTop (mkF m 18 (LS_RIRIRRI r0 p1 r2 p3 r4 r5 p6) [(.ref r4)])) (fun t k => st7 _ k) ?_
  refine own_go (B := T7.setTop (mkF m 21 (LS_RIRIRRI r0 p1 r2 p3 r4 r5 p6) [(.ref r5)])) (fun t k => ?_) ?_
  · show Steps p.tables e below (T7.setTop (mkF m 18 (LS_RIRIRRI r0 p1 r2 p3 r4 r5 p6) [(.ref r4)])) _
    refine XS.pop X7.here hx rfl (hb hby d17_18) rfl rfl ?_
    show Steps p.tables e below (T7.setTop (mkF m 19 (LS_RIRIRRI r0 p1 r2 p3 r4 r5 p6) [])) _
    refine XS.aload X7.here hx rfl (hb hby d17_19) rfl rfl ?_
    exact k
  obtain ⟨sa8, T8, h8, kk8, X8, e8, E8, hS8, hk8, hZ8, ho8, st8⟩ := ldcS (s := s) (vm0 := T5.vm) X7 hx hZ5 ho5 (hw _ (List.mem_of_getElem? (i := 126) rfl)) (own_strs hw) e7 hS5 hk5 (g := (mkF m 21 (LS_RIRIRRI r0 p1 r2 p3 r4 r5 p6) [(.ref r5)])) rfl (hb hby d17_21) (n := 20) (by decide) (by decide) (by decide) (by decide)
  refine own_go (B := T8.setTop (mkF m 23 (LS_RIRIRRI r0 p1 r2 p3 r4 r5 p6) [(.ref sa8), (.ref r5)])) (fun t k => st8 _ k) ?_
  have Z0_v9 := Nat.le_trans Z0_v6 E8.1
  obtain ⟨_, _, ⟨T10, L10, k10, n10⟩, -, X10, ⟨Lc10, hQ10, l10, y10, z10⟩, st10⟩ := Jvm.LawKit.callS X8 hx (y := (⟨"java/util/Objects", "requireNonNull", "(Ljava/lang/Object;Ljava/lang/String;)Ljava/lang/Object;"⟩ : MethodName)) ho8 (mvT hZ8 (hw _ (List.mem_of_getElem? (i := 124) rfl))) (mvT hZ8 (hw _ (List.mem_of_getElem? (i := 46) rfl))) (mvT hZ8 (hw _ (List.mem_of_getElem? (i := 47) rfl))) (mvT hZ8 (hw _ (List.mem_of_getElem? (i := 48) rfl))) (by decide) (backOf (W := 0) (rmrn2 l Z a0 hw [] r5 sa8 h8 n0 Z0_v9) hZ8 (hw _ (List.mem_of_getElem? (i := 48) rfl)) (hw _ (List.mem_of_getElem? (i := 47) rfl)) (by decide) (by decide)) (g := (mkF m 23 (LS_RIRIRRI r0 p1 r2 p3 r4 r5 p6) [(.ref sa8), (.ref r5)])) rfl (by rw [hml]; rfl) (argsL := [(.ref r5), (.ref sa8)]) (rest := []) (lenOf pd__Ljava_lang_Object_Ljava_lang_String__Ljava_lang_Object_ rfl) rfl (by show 2 * 0 + _ ≤ _; exact Nat.le_of_eq rfl) (hb hby d17_23) (fun _ _ => ⟨rfl, e8, (by decide : 6 + 0 ≤ _), (by decide : 88 + 0 ≤ _)⟩)
  dsimp only [Pt.U, Pt.locs, Pt.cells, Pt.slots] at X10 l10 y10 z10 st10 hQ10
  subst l10 y10 z10
  obtain ⟨rfl, N10q, e10⟩ := hQ10
  have N10 := Fr.app N7 N10q
  refine own_go (B := T10.setTop (mkF m 26 (LS_RIRIRRI r0 p1 r2 p3 r4 r5 p6) [(.ref r5)])) (fun t k => st10 _ k) ?_
  refine own_go (B := T10.setTop (mkF m 47 (LS_RIRIRRI r0 p1 r2 p3 r4 r5 p6) [(.ref r4)])) (fun t k => ?_) ?_
  · show Steps p.tables e below (T10.setTop (mkF m 26 (LS_RIRIRRI r0 p1 r2 p3 r4 r5 p6) [(.ref r5)])) _
    refine XS.pop X10.here hx rfl (hb hby d17_26) rfl rfl ?_
    show Steps p.tables e below (T10.setTop (mkF m 27 (LS_RIRIRRI r0 p1 r2 p3 r4 r5 p6) [])) _
    refine XS.iloadN X10.here hx rfl (hb hby d17_27) rfl ?_
    show Steps p.tables e below (T10.setTop (mkF m 28 (LS_RIRIRRI r0 p1 r2 p3 r4 r5 p6) [(.int p3)])) _
    refine XS.ifYes X10.here hx rfl (pc0 := 28) (pc' := 45) rfl (hb hby d17_28) rfl ((if0 _ _).trans (flt hrem).2.1) (by decide) (by decide) ?_
    show Steps p.tables e below (T10.setTop (mkF m 45 (LS_RIRIRRI r0 p1 r2 p3 r4 r5 p6) [])) _
    refine XS.aload X10.here hx rfl (hb hby d17_45) rfl rfl ?_
    exact k
  have De1_v11 := De1.ext E2
  have De1_v12 := De1_v11.ext E5
  have De1_v13 := De1_v12.ext E8
  have Xe1_v15 := Xe1.ext E2
  have Xe1_v16 := Xe1_v15.ext E5
  have Xe1_v17 := Xe1_v16.ext E8
  obtain ⟨cq14, kq14, q14a, q14b, q14c⟩ := isOf hZ8 e10 Xe1_v17
  obtain ⟨_, _, ⟨T14, L14, k14, n14⟩, -, X14, ⟨Lc14, hQ14, l14, y14, z14⟩, st14⟩ := X10.virtualBack hx (y := (⟨"java/time/Duration", "isNegative", "()Z"⟩ : MethodName)) (z := (⟨"java/time/Duration", "isNegative", "()Z"⟩ : MethodName)) ho8 (mvT hZ8 (hw _ (List.mem_of_getElem? (i := 127) rfl))) (mvT hZ8 (hw _ (List.mem_of_getElem? (i := 128) rfl))) (notFace_of_selects (args := #[]) (mvT hZ8 (hw _ (List.mem_of_getElem? (i := 130) rfl)))) (mvT hZ8 (hw _ (List.mem_of_getElem? (i := 130) rfl))) (mvT hZ8 (hw _ (List.mem_of_getElem? (i := 129) rfl))) (by decide) (backOf (W := 0) (rmneg l Z a0 hw [] r4 q1 h8 n0 Z0_v9 De1_v13 hq1) hZ8 (hw _ (List.mem_of_getElem? (i := 131) rfl)) (hw _ (List.mem_of_getElem? (i := 97) rfl)) (by decide) (by decide)) q14a q14c (g := (mkF m 47 (LS_RIRIRRI r0 p1 r2 p3 r4 r5 p6) [(.ref r4)])) rfl (by rw [hml]; rfl) (Steps.refl _) (argsL := []) (rest := []) (lenOf pd___Z rfl) rfl (by show 2 * 0 + _ ≤ _; exact Nat.le_of_eq rfl) (hb hby d17_47) (fun _ _ => ⟨rfl, e10, (by decide : 6 + 0 ≤ _), (by decide : 88 + 0 ≤ _)⟩)
  dsimp only [Pt.U, Pt.locs, Pt.cells, Pt.slots] at X14 l14 y14 z14 st14 hQ14
  subst l14 y14 z14
  obtain ⟨rfl, N14q, e14⟩ := hQ14
  have N14 := Fr.app N10 N14q
  refine own_go (B := T14.setTop (mkF m 50 (LS_RIRIRRI r0 p1 r2 p3 r4 r5 p6) [(.int (0 : Int32))])) (fun t k => st14.trans k) ?_
  refine own_go (B := T14.setTop (mkF m 73 (LS_RIRIRRI r0 p1 r2 p3 r4 r5 p6) [(.ref r5)])) (fun t k => ?_) ?_
  · show Steps p.tables e below (T14.setTop (mkF m 50 (LS_RIRIRRI r0 p1 r2 p3 r4 r5 p6) [(.int (0 : Int32))])) _
    refine XS.ifYes X14.here hx rfl (pc0 := 50) (pc' := 71) rfl (hb hby d17_50) rfl ((if0 _ _).trans (teq (by decide : (0 : Int32) = (0 : Int32))).1) (by decide) (by decide) ?_
    show Steps p.tables e below (T14.setTop (mkF m 71 (LS_RIRIRRI r0 p1 r2 p3 r4 r5 p6) [])) _
    refine XS.aload X14.here hx rfl (hb hby d17_71) rfl rfl ?_
    exact k
  have De2_v18 := De2.ext E2
  have De2_v19 := De2_v18.ext E5
  have De2_v20 := De2_v19.ext E8
  have Xe2_v22 := Xe2.ext E2
  have Xe2_v23 := Xe2_v22.ext E5
  have Xe2_v24 := Xe2_v23.ext E8
  obtain ⟨cq21, kq21, q21a, q21b, q21c⟩ := isOf hZ8 e14 Xe2_v24
  obtain ⟨_, _, ⟨T21, L21, k21, n21⟩, -, X21, ⟨Lc21, hQ21, l21, y21, z21⟩, st21⟩ := X14.virtualBack hx (y := (⟨"java/time/Duration", "isNegative", "()Z"⟩ : MethodName)) (z := (⟨"java/time/Duration", "isNegative", "()Z"⟩ : MethodName)) ho8 (mvT hZ8 (hw _ (List.mem_of_getElem? (i := 127) rfl))) (mvT hZ8 (hw _ (List.mem_of_getElem? (i := 128) rfl))) (notFace_of_selects (args := #[]) (mvT hZ8 (hw _ (List.mem_of_getElem? (i := 130) rfl)))) (mvT hZ8 (hw _ (List.mem_of_getElem? (i := 130) rfl))) (mvT hZ8 (hw _ (List.mem_of_getElem? (i := 129) rfl))) (by decide) (backOf (W := 0) (rmneg l Z a0 hw [] r5 q2 h8 n0 Z0_v9 De2_v20 hq2) hZ8 (hw _ (List.mem_of_getElem? (i := 131) rfl)) (hw _ (List.mem_of_getElem? (i := 97) rfl)) (by decide) (by decide)) q21a q21c (g := (mkF m 73 (LS_RIRIRRI r0 p1 r2 p3 r4 r5 p6) [(.ref r5)])) rfl (by rw [hml]; rfl) (Steps.refl _) (argsL := []) (rest := []) (lenOf pd___Z rfl) rfl (by show 2 * 0 + _ ≤ _; exact Nat.le_of_eq rfl) (hb hby d17_73) (fun _ _ => ⟨rfl, e14, (by decide : 6 + 0 ≤ _), (by decide : 88 + 0 ≤ _)⟩)
  dsimp only [Pt.U, Pt.locs, Pt.cells, Pt.slots] at X21 l21 y21 z21 st21 hQ21
  subst l21 y21 z21
  obtain ⟨rfl, N21q, e21⟩ := hQ21
  have N21 := Fr.app N14 N21q
  refine own_go (B := T21.setTop (mkF m 76 (LS_RIRIRRI r0 p1 r2 p3 r4 r5 p6) [(.int (0 : Int32))])) (fun t k => st21.trans k) ?_
  refine own_go (B := T21.setTop (mkF m 99 (LS_RIRIRRI r0 p1 r2 p3 r4 r5 p6) [(.int p1), (.ref r0)])) (fun t k => ?_) ?_
  · show Steps p.tables e below (T21.setTop (mkF m 76 (LS_RIRIRRI r0 p1 r2 p3 r4 r5 p6) [(.int (0 : Int32))])) _
    refine XS.ifYes X21.here hx rfl (pc0 := 76) (pc' := 97) rfl (hb hby d17_76) rfl ((if0 _ _).trans (teq (by decide : (0 : Int32) = (0 : Int32))).1) (by decide) (by decide) ?_
    show Steps p.tables e below (T21.setTop (mkF m 97 (LS_RIRIRRI r0 p1 r2 p3 r4 r5 p6) [])) _
    refine XS.aloadN X21.here hx rfl (hb hby d17_97) rfl rfl ?_
    show Steps p.tables e below (T21.setTop (mkF m 98 (LS_RIRIRRI r0 p1 r2 p3 r4 r5 p6) [(.ref r0)])) _
    refine XS.iloadN X21.here hx rfl (hb hby d17_98) rfl ?_
    exact k
  have E0_v25 := E0.ext E2
  have E0_v26 := E0_v25.ext E5
  have E0_v27 := E0_v26.ext E8
  have F0_v28 := F0.ext E2
  have F0_v29 := F0_v28.ext E5
  have F0_v30 := F0_v29.ext E8
  obtain ⟨T31, h31, X31, e31, W31, st31⟩ := putFN X21 hx hZ8 ho8 (hw _ (List.mem_of_getElem? (i := 134) rfl)) Via.refl e21 F0_v30 E0_v27 (Or.inr ⟨(hw _ (List.mem_of_getElem? (i := 135) rfl)), rfl, hnm⟩) (hw _ (List.mem_of_getElem? (i := 102) rfl)) (ty := .boolean) (v' := (.int (nar .boolean p1))) (by decide) rfl (fits_nar_bool _) (g := (mkF m 99 (LS_RIRIRRI r0 p1 r2 p3 r4 r5 p6) [(.int p1), (.ref r0)])) rfl rfl (hb hby d17_99)
  have N31 := Fr.snoc X31 N21 g_r0
  have Fw31 := F0_v30.same W31
  refine own_go (B := T31.setTop (mkF m 102 (LS_RIRIRRI r0 p1 r2 p3 r4 r5 p6) [])) (fun t k => st31 _ k) ?_
  refine own_go (B := T31.setTop (mkF m 104 (LS_RIRIRRI r0 p1 r2 p3 r4 r5 p6) [(.ref r2), (.ref r0)])) (fun t k => ?_) ?_
  · show Steps p.tables e below (T31.setTop (mkF m 102 (LS_RIRIRRI r0 p1 r2 p3 r4 r5 p6) [])) _
    refine XS.aloadN X31.here hx rfl (hb hby d17_102) rfl rfl ?_
    show Steps p.tables e below (T31.setTop (mkF m 103 (LS_RIRIRRI r0 p1 r2 p3 r4 r5 p6) [(.ref r0)])) _
    refine XS.aloadN X31.here hx rfl (hb hby d17_103) rfl rfl ?_
    exact k
  have E0_v32 := E0_v27.wr W31
  have F1_v33 := F1.ext E2
  have F1_v34 := F1_v33.ext E5
  have F1_v35 := F1_v34.ext E8
  have F1_v36 := F1_v35.other W31 (Or.inr (slot_ne (Or.inr (hw _ (List.mem_of_getElem? (i := 137) rfl))) (Or.inr (hw _ (List.mem_of_getElem? (i := 135) rfl))) (by decide) (t := (.object "java/util/Optional")) (t' := .boolean) (by decide) (by decide)))
  obtain ⟨T37, h37, X37, e37, W37, st37⟩ := putF X31 hx hZ8 ho8 (host := "") (Or.inl (hw _ (List.mem_of_getElem? (i := 136) rfl))) Via.refl e31 F1_v36 E0_v32 (Or.inr ⟨(hw _ (List.mem_of_getElem? (i := 137) rfl)), rfl, hnm⟩) (hw _ (List.mem_of_getElem? (i := 102) rfl)) (ty := (.object "java/util/Optional")) (by decide) rfl rfl (g := (mkF m 104 (LS_RIRIRRI r0 p1 r2 p3 r4 r5 p6) [(.ref r2), (.ref r0)])) rfl rfl (hb hby d17_104)
  have N37 := Fr.snoc X37 N31 g_r0
  have Fw37 := F1_v36.same W37
  refine own_go (B := T37.setTop (mkF m 107 (LS_RIRIRRI r0 p1 r2 p3 r4 r5 p6) [])) (fun t k => st37 _ k) ?_
  refine own_go (B := T37.setTop (mkF m 109 (LS_RIRIRRI r0 p1 r2 p3 r4 r5 p6) [(.int p3), (.ref r0)])) (fun t k => ?_) ?_
  · show Steps p.tables e below (T37.setTop (mkF m 107 (LS_RIRIRRI r0 p1 r2 p3 r4 r5 p6) [])) _
    refine XS.aloadN X37.here hx rfl (hb hby d17_107) rfl rfl ?_
    show Steps p.tables e below (T37.setTop (mkF m 108 (LS_RIRIRRI r0 p1 r2 p3 r4 r5 p6) [(.ref r0)])) _
    refine XS.iloadN X37.here hx rfl (hb hby d17_108) rfl ?_
    exact k
  have E0_v38 := E0_v32.wr W37
  have F2_v39 := F2.ext E2
  have F2_v40 := F2_v39.ext E5
  have F2_v41 := F2_v40.ext E8
  have F2_v42 := F2_v41.other W31 (Or.inr (slot_ne (Or.inr (hw _ (List.mem_of_getElem? (i := 139) rfl))) (Or.inr (hw _ (List.mem_of_getElem? (i := 135) rfl))) (by decide) (t := .int) (t' := .boolean) (by decide) (by decide)))
  have F2_v43 := F2_v42.other W37 (Or.inr (slot_ne (Or.inr (hw _ (List.mem_of_getElem? (i := 139) rfl))) (Or.inr (hw _ (List.mem_of_getElem? (i := 137) rfl))) (by decide) (t := .int) (t' := (.object "java/util/Optional")) (by decide) (by decide)))
  obtain ⟨T44, h44, X44, e44, W44, st44⟩ := putF X37 hx hZ8 ho8 (host := "") (Or.inl (hw _ (List.mem_of_getElem? (i := 138) rfl))) Via.refl e37 F2_v43 E0_v38 (Or.inr ⟨(hw _ (List.mem_of_getElem? (i := 139) rfl)), rfl, hnm⟩) (hw _ (List.mem_of_getElem? (i := 102) rfl)) (ty := .int) (by decide) rfl rfl (g := (mkF m 109 (LS_RIRIRRI r0 p1 r2 p3 r4 r5 p6) [(.int p3), (.ref r0)])) rfl rfl (hb hby d17_109)
  have N44 := Fr.snoc X44 N37 g_r0
  have Fw44 := F2_v43.same W44
  refine own_go (B := T44.setTop (mkF m 112 (LS_RIRIRRI r0 p1 r2 p3 r4 r5 p6) [])) (fun t k => st44 _ k) ?_
  refine own_go (B := T44.setTop (mkF m 115 (LS_RIRIRRI r0 p1 r2 p3 r4 r5 p6) [(.ref r4), (.ref r0)])) (fun t k => ?_) ?_
  · show Steps p.tables e below (T44.setTop (mkF m 112 (LS_RIRIRRI r0 p1 r2 p3 r4 r5 p6) [])) _
    refine XS.aloadN X44.here hx rfl (hb hby d17_112) rfl rfl ?_
    show Steps p.tables e below (T44.setTop (mkF m 113 (LS_RIRIRRI r0 p1 r2 p3 r4 r5 p6) [(.ref r0)])) _
    refine XS.aload X44.here hx rfl (hb hby d17_113) rfl rfl ?_
    exact k
  have E0_v45 := E0_v38.wr W44
  have F3_v46 := F3.ext E2
  have F3_v47 := F3_v46.ext E5
  have F3_v48 := F3_v47.ext E8
  have F3_v49 := F3_v48.other W31 (Or.inr (slot_ne (Or.inr (hw _ (List.mem_of_getElem? (i := 141) rfl))) (Or.inr (hw _ (List.mem_of_getElem? (i := 135) rfl))) (by decide) (t := (.object "java/time/Duration")) (t' := .boolean) (by decide) (by decide)))
  have F3_v50 := F3_v49.other W37 (Or.inr (slot_ne (Or.inr (hw _ (List.mem_of_getElem? (i := 141) rfl))) (Or.inr (hw _ (List.mem_of_getElem? (i := 137) rfl))) (by decide) (t := (.object "java/time/Duration")) (t' := (.object "java/util/Optional")) (by decide) (by decide)))
  have F3_v51 := F3_v50.other W44 (Or.inr (slot_ne (Or.inr (hw _ (List.mem_of_getElem? (i := 141) rfl))) (Or.inr (hw _ (List.mem_of_getElem? (i := 139) rfl))) (by decide) (t := (.object "java/time/Duration")) (t' := .int) (by decide) (by decide)))
  obtain ⟨T52, h52, X52, e52, W52, st52⟩ := putF X44 hx hZ8 ho8 (host := "") (Or.inl (hw _ (List.mem_of_getElem? (i := 140) rfl))) Via.refl e44 F3_v51 E0_v45 (Or.inr ⟨(hw _ (List.mem_of_getElem? (i := 141) rfl)), rfl, hnm⟩) (hw _ (List.mem_of_getElem? (i := 102) rfl)) (ty := (.object "java/time/Duration")) (by decide) rfl rfl (g := (mkF m 115 (LS_RIRIRRI r0 p1 r2 p3 r4 r5 p6) [(.ref r4), (.ref r0)])) rfl rfl (hb hby d17_115)
  have N52 := Fr.snoc X52 N44 g_r0
  have Fw52 := F3_v51.same W52
  refine own_go (B := T52.setTop (mkF m 118 (LS_RIRIRRI r0 p1 r2 p3 r4 r5 p6) [])) (fun t k => st52 _ k) ?_
  refine own_go (B := T52.setTop (mkF m 121 (LS_RIRIRRI r0 p1 r2 p3 r4 r5 p6) [(.ref r5), (.ref r0)])) (fun t k => ?_) ?_
  · show Steps p.tables e below (T52.setTop (mkF m 118 (LS_RIRIRRI r0 p1 r2 p3 r4 r5 p6) [])) _
    refine XS.aloadN X52.here hx rfl (hb hby d17_118) rfl rfl ?_
    show Steps p.tables e below (T52.setTop (mkF m 119 (LS_RIRIRRI r0 p1 r2 p3 r4 r5 p6) [(.ref r0)])) _
    refine XS.aload X52.here hx rfl (hb hby d17_119) rfl rfl ?_
    exact k
  have E0_v53 := E0_v45.wr W52
  have F4_v54 := F4.ext E2
  have F4_v55 := F4_v54.ext E5
  have F4_v56 := F4_v55.ext E8
  have F4_v57 := F4_v56.other W31 (Or.inr (slot_ne (Or.inr (hw _ (List.mem_of_getElem? (i := 143) rfl))) (Or.inr (hw _ (List.mem_of_getElem? (i := 135) rfl))) (by decide) (t := (.object "java/time/Duration")) (t' := .boolean) (by decide) (by decide)))
  have F4_v58 := F4_v57.other W37 (Or.inr (slot_ne (Or.inr (hw _ (List.mem_of_getElem? (i := 143) rfl))) (Or.inr (hw _ (List.mem_of_getElem? (i := 137) rfl))) (by decide) (t := (.object "java/time/Duration")) (t' := (.object "java/util/Optional")) (by decide) (by decide)))
  have F4_v59 := F4_v58.other W44 (Or.inr (slot_ne (Or.inr (hw _ (List.mem_of_getElem? (i := 143) rfl))) (Or.inr (hw _ (List.mem_of_getElem? (i := 139) rfl))) (by decide) (t := (.object "java/time/Duration")) (t' := .int) (by decide) (by decide)))
  have F4_v60 := F4_v59.other W52 (Or.inr (slot_ne (Or.inr (hw _ (List.mem_of_getElem? (i := 143) rfl))) (Or.inr (hw _ (List.mem_of_getElem? (i := 141) rfl))) (by decide) (t := (.object "java/time/Duration")) (t' := (.object "java/time/Duration")) (by decide) (by decide)))
  obtain ⟨T61, h61, X61, e61, W61, st61⟩ := putF X52 hx hZ8 ho8 (host := "") (Or.inl (hw _ (List.mem_of_getElem? (i := 142) rfl))) Via.refl e52 F4_v60 E0_v53 (Or.inr ⟨(hw _ (List.mem_of_getElem? (i := 143) rfl)), rfl, hnm⟩) (hw _ (List.mem_of_getElem? (i := 102) rfl)) (ty := (.object "java/time/Duration")) (by decide) rfl rfl (g := (mkF m 121 (LS_RIRIRRI r0 p1 r2 p3 r4 r5 p6) [(.ref r5), (.ref r0)])) rfl rfl (hb hby d17_121)
  have N61 := Fr.snoc X61 N52 g_r0
  have Fw61 := F4_v60.same W61
  refine own_go (B := T61.setTop (mkF m 124 (LS_RIRIRRI r0 p1 r2 p3 r4 r5 p6) [])) (fun t k => st61 _ k) ?_
  refine own_go (B := T61.setTop (mkF m 127 (LS_RIRIRRI r0 p1 r2 p3 r4 r5 p6) [(.int p6), (.ref r0)])) (fun t k => ?_) ?_
  · show Steps p.tables e below (T61.setTop (mkF m 124 (LS_RIRIRRI r0 p1 r2 p3 r4 r5 p6) [])) _
    refine XS.aloadN X61.here hx rfl (hb hby d17_124) rfl rfl ?_
    show Steps p.tables e below (T61.setTop (mkF m 125 (LS_RIRIRRI r0 p1 r2 p3 r4 r5 p6) [(.ref r0)])) _
    refine XS.iload X61.here hx rfl (hb hby d17_125) rfl ?_
    exact k
  have E0_v62 := E0_v53.wr W61
  have F5_v63 := F5.ext E2
  have F5_v64 := F5_v63.ext E5
  have F5_v65 := F5_v64.ext E8
  have F5_v66 := F5_v65.other W31 (Or.inr (slot_ne (Or.inr (hw _ (List.mem_of_getElem? (i := 145) rfl))) (Or.inr (hw _ (List.mem_of_getElem? (i := 135) rfl))) (by decide) (t := .boolean) (t' := .boolean) (by decide) (by decide)))
  have F5_v67 := F5_v66.other W37 (Or.inr (slot_ne (Or.inr (hw _ (List.mem_of_getElem? (i := 145) rfl))) (Or.inr (hw _ (List.mem_of_getElem? (i := 137) rfl))) (by decide) (t := .boolean) (t' := (.object "java/util/Optional")) (by decide) (by decide)))
  have F5_v68 := F5_v67.other W44 (Or.inr (slot_ne (Or.inr (hw _ (List.mem_of_getElem? (i := 145) rfl))) (Or.inr (hw _ (List.mem_of_getElem? (i := 139) rfl))) (by decide) (t := .boolean) (t' := .int) (by decide) (by decide)))
  have F5_v69 := F5_v68.other W52 (Or.inr (slot_ne (Or.inr (hw _ (List.mem_of_getElem? (i := 145) rfl))) (Or.inr (hw _ (List.mem_of_getElem? (i := 141) rfl))) (by decide) (t := .boolean) (t' := (.object "java/time/Duration")) (by decide) (by decide)))
  have F5_v70 := F5_v69.other W61 (Or.inr (slot_ne (Or.inr (hw _ (List.mem_of_getElem? (i := 145) rfl))) (Or.inr (hw _ (List.mem_of_getElem? (i := 143) rfl))) (by decide) (t := .boolean) (t' := (.object "java/time/Duration")) (by decide) (by decide)))
  obtain ⟨T71, h71, X71, e71, W71, st71⟩ := putFN X61 hx hZ8 ho8 (hw _ (List.mem_of_getElem? (i := 144) rfl)) Via.refl e61 F5_v70 E0_v62 (Or.inr ⟨(hw _ (List.mem_of_getElem? (i := 145) rfl)), rfl, hnm⟩) (hw _ (List.mem_of_getElem? (i := 102) rfl)) (ty := .boolean) (v' := (.int (nar .boolean p6))) (by decide) rfl (fits_nar_bool _) (g := (mkF m 127 (LS_RIRIRRI r0 p1 r2 p3 r4 r5 p6) [(.int p6), (.ref r0)])) rfl rfl (hb hby d17_127)
  have N71 := Fr.snoc X71 N61 g_r0
  have Fw71 := F5_v70.same W71
  refine own_go (B := T71.setTop (mkF m 130 (LS_RIRIRRI r0 p1 r2 p3 r4 r5 p6) [])) (fun t k => st71 _ k) ?_
  have hk8_v72 := Nat.le_trans hk8 (Nat.le_of_eq W31.size.symm)
  have hk8_v73 := Nat.le_trans hk8_v72 (Nat.le_of_eq W37.size.symm)
  have hk8_v74 := Nat.le_trans hk8_v73 (Nat.le_of_eq W44.size.symm)
  have hk8_v75 := Nat.le_trans hk8_v74 (Nat.le_of_eq W52.size.symm)
  have hk8_v76 := Nat.le_trans hk8_v75 (Nat.le_of_eq W61.size.symm)
  have hk8_v77 := Nat.le_trans hk8_v76 (Nat.le_of_eq W71.size.symm)
  obtain ⟨fs, hr, hrun, hended, hRW⟩ := Stand.leaveW (s := s) (vm₁ := T8.vm) X71 hS8 (by rw [e71]; exact hk8_v77) (v := none) (fun _ => rfl)
  refine ⟨_, _, ?_, hrun, hended, _, _, rfl, ?_, hRW.1, hRW.2.1, hRW.2.2.1, hRW.2.2.2.mono (by decide) (by decide)⟩
  · show Steps p.tables e below (T71.setTop (mkF m 130 (LS_RIRIRRI r0 p1 r2 p3 r4 r5 p6) [])) _
    exact X71.returnOut hx Bd.returns (hb hby d17_130) hr
  · show Qdei Z r0 p1 r2 p3 r4 r5 p6 q1 q2 h0 n0 _ T71.heap _
    rw [e71]
    have K0_v78 := K0.ext E2
    have K0_v79 := K0_v78.ext E5
    have K0_v80 := K0_v79.ext E8
    have K0_v81 := K0_v80.wr W31 (Or.inl (List.mem_of_getElem? (i := 0) rfl))
    have K0_v82 := K0_v81.wr W37 (Or.inl (List.mem_of_getElem? (i := 0) rfl))
    have K0_v83 := K0_v82.wr W44 (Or.inl (List.mem_of_getElem? (i := 0) rfl))
    have K0_v84 := K0_v83.wr W52 (Or.inl (List.mem_of_getElem? (i := 0) rfl))
    have K0_v85 := K0_v84.wr W61 (Or.inl (List.mem_of_getElem? (i := 0) rfl))
    have K0_v86 := K0_v85.wr W71 (Or.inl (List.mem_of_getElem? (i := 0) rfl))
    exact ⟨rfl, N71, K0_v86⟩
theorem ef_ad3 (m : MethodId) (r0 : Addr) (p1 : Int32) (wz : Addr) : entryFrame m #[(.ref r0), (.int p1), (.ref wz)] 3 = mkF m 0 #[.val (.ref r0), .val (.int p1), .val (.ref wz)] [] := by first | (simp [entryFrame, mkF, argsToLocals, Value.category]; done) | rfl
theorem pn_13 : plainName "com/example/blend2/blend2/Decision" = true := by first | (simp [plainName, overriddenIn]; done) | decide +kernel
abbrev LS_RIR (a0 : Addr) (a1 : Int32) (a2 : Addr) : Array Slot := #[.val (.ref a0), .val (.int a1), .val (.ref a2)]
theorem d13_0 : decode prog_2_method_4_code 0 = .ok (.new 45, 3) := by decide +kernel
theorem d13_3 : decode prog_2_method_4_code 3 = .ok (.dup, 1) := by decide +kernel
theorem d13_4 : decode prog_2_method_4_code 4 = .ok (.iconst 1, 1) := by decide +kernel
theorem d13_5 : decode prog_2_method_4_code 5 = .ok (.aload_n 0, 1) := by decide +kernel
theorem d13_6 : decode prog_2_method_4_code 6 = .ok (.invokestatic 84, 3) := by decide +kernel
theorem pd__Ljava_lang_Object__Ljava_util_Optional_ : parseMethodDescriptor "(Ljava/lang/Object;)Ljava/util/Optional;" = some ⟨[(.object "java/lang/Object")], some (.object "java/util/Optional")⟩ := by decide +kernel
theorem d13_9 : decode prog_2_method_4_code 9 = .ok (.iload_n 1, 1) := by decide +kernel
theorem d13_10 : decode prog_2_method_4_code 10 = .ok (.getstatic 74, 3) := by decide +kernel
theorem d13_13 : decode prog_2_method_4_code 13 = .ok (.aload_n 2, 1) := by decide +kernel
theorem d13_14 : decode prog_2_method_4_code 14 = .ok (.iconst 0, 1) := by decide +kernel
theorem d13_15 : decode prog_2_method_4_code 15 = .ok (.invokespecial 77, 3) := by decide +kernel
theorem pd__ZLjava_util_Optional_ILjava_time_Duration_Ljava_time_Duration_Z_V : parseMethodDescriptor "(ZLjava/util/Optional;ILjava/time/Duration;Ljava/time/Duration;Z)V" = some ⟨[.boolean, (.object "java/util/Optional"), .int, (.object "java/time/Duration"), (.object "java/time/Duration"), .boolean], none⟩ := by decide +kernel
theorem d13_18 : decode prog_2_method_4_code 18 = .ok (.areturn, 1) := by decide +kernel
def Qad3 (Z : State) (r0 : Addr) (p1 : Int32) (wz : Addr) (h0 : Heap) (n0 : Nat) (v : Option Value) (h : Heap) (L : List Loc) : Prop := ∃ r : Addr, v = some (.ref r) ∧ Fr n0 L ∧ Keep h0 h []
set_option maxRecDepth 65536 in
set_option maxHeartbeats 40000000 in
theorem rmad3 (l : Launch) (Z : State) (a0 : Array Value) (hw : ∀ d ∈ tables_1, d.before a0 Z = true) (ws : List Jvm.Cond) (r0 : Addr) (p1 : Int32) (wz : Addr) (h0 : Heap) (n0 : Nat) (Z0 : n0 ≤ h0.size) (S_ZERO : Sta Z h0 "java/time/Duration" "ZERO" "Ljava/time/Duration;" (.ref wz)) (Ez : Exa Z h0 wz "java/time/Duration") (Fz : Fld Z h0 wz "java/time/Duration" "seconds" "J" (.long (0 : Int64))) (hrem : ¬ (p1 < (0 : Int32))) :
    MetFree l (⟨"com/example/blend2/blend2/Decision", "admitted", "(Lcom/example/blend2/blend2/Rule;ILjava/time/Duration;)Lcom/example/blend2/blend2/Decision;"⟩ : MethodName) (head1 (Jvm.Cond.code (⟨"com/example/blend2/blend2/Decision", "admitted", "(Lcom/example/blend2/blend2/Rule;ILjava/time/Duration;)Lcom/example/blend2/blend2/Decision;"⟩ : MethodName) prog_2_method_4_code 3 (some (.object "com/example/blend2/blend2/Decision")) :: ws) ({ frames := 3, cells := 8, slots := 95, locals := 70 } : Room)) (fun a U => a = #[(.ref r0), (.int p1), (.ref wz)] ∧ Z.Warmed39 U.vm ∧ U.heap = h0) (fun _ _ _ _ _ => True) (fun _ U o U' => ∃ v L, o = .returned v ∧ Qad3 Z r0 p1 wz h0 n0 v U'.heap L ∧ ReturnedEndW U o U' L ({ frames := 3, cells := 8, slots := 95, locals := 70 } : Room).cells ({ frames := 3, cells := 8, slots := 95, locals := 70 } : Room).slots) := by
  refine MetFree.of_bodySF (plainFor_of_name pn_13) hisR ?_
  intro p e s m args below meth c s₁ Bd hml0 hP hK
  obtain ⟨rfl, hZ, hh⟩ := hP
  have hx := Bd.exec
  have hby := Bd.bytes
  have hml : c.maxLocals = 3 := hml0
  have hown : s.vm.findClass "com/example/blend2/blend2/Decision" = some m.cls := findClass_of_methodNamed Bd.named
  have hnm := (name_of_methodNamed Bd.named Bd.method).1
  have X0 : Stand p l e ({ frames := 3, cells := 8, slots := 95, locals := 70 } : Room) s m #[(.ref r0), (.int p1), (.ref wz)] below meth c s₁ [] 0 0 := Stand.of_body Bd
  have e0 : s₁.heap = h0 := by rw [← hh, Bd.state]; rfl
  have N0 := Fr.nil n0
  refine own_go (B := s₁.setTop (mkF m 0 (LS_RIR r0 p1 wz) [])) (fun t k => castTop (ef_ad3 m r0 p1 wz) k) ?_
  have hS0 : s.Since s.vm 0 := (State.WarmedH.refl s).since 0
  have hk0 : 0 ≤ Array.size h0 := Nat.zero_le _
  have K0 : Keep h0 h0 [] := Keep.refl _ _
  obtain ⟨T1, h1, X1, e1, E1, A1, D1, -, st1⟩ := newO X0 hx hZ hown (hw _ (List.mem_of_getElem? (i := 101) rfl)) (hw _ (List.mem_of_getElem? (i := 102) rfl)) (hw _ (List.mem_of_getElem? (i := 94) rfl)) e0 (g := (mkF m 0 (LS_RIR r0 p1 wz) [])) rfl (hb hby d13_0) (by decide) (by decide)
  obtain ⟨b1, g1⟩ : ∃ z, z = h0.size := ⟨_, rfl⟩
  rw [← g1] at A1 D1 st1
  have g_b1 : n0 ≤ b1 := Nat.le_trans Z0 (Nat.le_of_eq g1.symm)
  have sz_b1 : h0.size ≤ b1 := Nat.le_trans K0.1 (Nat.le_of_eq g1.symm)
  have F1_allowed : Fld Z h1 b1 "com/example/blend2/blend2/Decision" "allowed" "Z" (.int (0 : Int32)) := D1 (Or.inr (hw _ (List.mem_of_getElem? (i := 135) rfl))) (ty := .boolean) (by decide)
  have F1_rule : Fld Z h1 b1 "com/example/blend2/blend2/Decision" "rule" "Ljava/util/Optional;" .null := D1 (Or.inr (hw _ (List.mem_of_getElem? (i := 137) rfl))) (ty := (.object "java/util/Optional")) (by decide)
  have F1_remaining : Fld Z h1 b1 "com/example/blend2/blend2/Decision" "remaining" "I" (.int (0 : Int32)) := D1 (Or.inr (hw _ (List.mem_of_getElem? (i := 139) rfl))) (ty := .int) (by decide)
  have F1_retryAfter : Fld Z h1 b1 "com/example/blend2/blend2/Decision" "retryAfter" "Ljava/time/Duration;" .null := D1 (Or.inr (hw _ (List.mem_of_getElem? (i := 141) rfl))) (ty := (.object "java/time/Duration")) (by decide)
  have F1_delay : Fld Z h1 b1 "com/example/blend2/blend2/Decision" "delay" "Ljava/time/Duration;" .null := D1 (Or.inr (hw _ (List.mem_of_getElem? (i := 143) rfl))) (ty := (.object "java/time/Duration")) (by decide)
  have F1_degraded : Fld Z h1 b1 "com/example/blend2/blend2/Decision" "degraded" "Z" (.int (0 : Int32)) := D1 (Or.inr (hw _ (List.mem_of_getElem? (i := 145) rfl))) (ty := .boolean) (by decide)
  refine own_go (B := T1.setTop (mkF m 3 (LS_RIR r0 p1 wz) [(.ref b1)])) (fun t k => st1 _ k) ?_
  refine own_go (B := T1.setTop (mkF m 6 (LS_RIR r0 p1 wz) [(.ref r0), (.int (1 : Int32)), (.ref b1), (.ref b1)])) (fun t k => ?_) ?_
  · show Steps p.tables e below (T1.setTop (mkF m 3 (LS_RIR r0 p1 wz) [(.ref b1)])) _
    refine XS.dup X1.here hx rfl (hb hby d13_3) rfl rfl ?_
    show Steps p.tables e below (T1.setTop (mkF m 4 (LS_RIR r0 p1 wz) [(.ref b1), (.ref b1)])) _
    refine XS.iconst X1.here hx rfl (hb hby d13_4) ?_
    show Steps p.tables e below (T1.setTop (mkF m 5 (LS_RIR r0 p1 wz) [(.int (1 : Int32)), (.ref b1), (.ref b1)])) _
    refine XS.aloadN X1.here hx rfl (hb hby d13_5) rfl rfl ?_
    exact k
  have Z0_v2 := Nat.le_trans Z0 E1.1
  obtain ⟨_, _, ⟨T3, L3, k3, n3⟩, -, X3, ⟨Lc3, hQ3, l3, y3, z3⟩, st3⟩ := Jvm.LawKit.callS X1 hx (y := (⟨"java/util/Optional", "of", "(Ljava/lang/Object;)Ljava/util/Optional;"⟩ : MethodName)) hown (mvT hZ (hw _ (List.mem_of_getElem? (i := 103) rfl))) (mvT hZ (hw _ (List.mem_of_getElem? (i := 104) rfl))) (mvT hZ (hw _ (List.mem_of_getElem? (i := 105) rfl))) (mvT hZ (hw _ (List.mem_of_getElem? (i := 106) rfl))) (by decide) (backOf (W := 3) (rmopo l Z a0 hw [] r0 h1 n0 Z0_v2) hZ (hw _ (List.mem_of_getElem? (i := 106) rfl)) (hw _ (List.mem_of_getElem? (i := 105) rfl)) (by decide) (by decide)) (g := (mkF m 6 (LS_RIR r0 p1 wz) [(.ref r0), (.int (1 : Int32)), (.ref b1), (.ref b1)])) rfl (by rw [hml]; rfl) (argsL := [(.ref r0)]) (rest := [(.int (1 : Int32)), (.ref b1), (.ref b1)]) (lenOf pd__Ljava_lang_Object__Ljava_util_Optional_ rfl) rfl (by show 2 * 0 + _ ≤ _; exact Nat.le_of_eq rfl) (hb hby d13_6) (fun _ _ => ⟨rfl, e1, (by decide : 1 + 1 ≤ _), (by decide : 6 + 1 ≤ _)⟩)
  dsimp only [Pt.U, Pt.locs, Pt.cells, Pt.slots] at X3 l3 y3 z3 st3 hQ3
  subst l3 y3 z3
  obtain ⟨o3, rfl, N3q, hfr3, K3⟩ := hQ3
  have N3 := Fr.app N0 N3q
  have g_o3 : n0 ≤ o3 := Nat.le_trans Z0_v2 hfr3
  have K0_v4 := K0.ext E1
  have sz_o3 : h0.size ≤ o3 := Nat.le_trans K0_v4.1 hfr3
  refine own_go (B := T3.setTop (mkF m 9 (LS_RIR r0 p1 wz) [(.ref o3), (.int (1 : Int32)), (.ref b1), (.ref b1)])) (fun t k => st3 _ k) ?_
  have S_ZERO_v5 := S_ZERO.ext E1
  have S_ZERO_v6 := own_sta_keep S_ZERO_v5 K3 all0
  refine own_go (B := T3.setTop (mkF m 10 (LS_RIR r0 p1 wz) [(.int p1), (.ref o3), (.int (1 : Int32)), (.ref b1), (.ref b1)])) (fun t k => ?_) ?_
  · show Steps p.tables e below (T3.setTop (mkF m 9 (LS_RIR r0 p1 wz) [(.ref o3), (.int (1 : Int32)), (.ref b1), (.ref b1)])) _
    refine XS.iloadN X3.here hx rfl (hb hby d13_9) rfl ?_
    exact k
  obtain ⟨T7, X7, e7, st7⟩ := getS2 X3 hx hZ hown (host := "") (Or.inl (hw _ (List.mem_of_getElem? (i := 96) rfl))) Via.refl rfl S_ZERO_v6 (g := (mkF m 10 (LS_RIR r0 p1 wz) [(.int p1), (.ref o3), (.int (1 : Int32)), (.ref b1), (.ref b1)])) rfl (hb hby d13_10)
  refine own_go (B := T7.setTop (mkF m 13 (LS_RIR r0 p1 wz) [(.ref wz), (.int p1), (.ref o3), (.int (1 : Int32)), (.ref b1), (.ref b1)])) (fun t k => st7 _ k) ?_
  refine own_go (B := T7.setTop (mkF m 15 (LS_RIR r0 p1 wz) [(.int (0 : Int32)), (.ref wz), (.ref wz), (.int p1), (.ref o3), (.int (1 : Int32)), (.ref b1), (.ref b1)])) (fun t k => ?_) ?_
  · show Steps p.tables e below (T7.setTop (mkF m 13 (LS_RIR r0 p1 wz) [(.ref wz), (.int p1), (.ref o3), (.int (1 : Int32)), (.ref b1), (.ref b1)])) _
    refine XS.aloadN X7.here hx rfl (hb hby d13_13) rfl rfl ?_
    show Steps p.tables e below (T7.setTop (mkF m 14 (LS_RIR r0 p1 wz) [(.ref wz), (.ref wz), (.int p1), (.ref o3), (.int (1 : Int32)), (.ref b1), (.ref b1)])) _
    refine XS.iconst X7.here hx rfl (hb hby d13_14) ?_
    exact k
  have Z0_v8 := Nat.le_trans Z0_v2 K3.1
  have A1_v9 := A1.keep K3
  have F1_allowed_v10 := F1_allowed.keep K3 nin0
  have F1_rule_v11 := F1_rule.keep K3 nin0
  have F1_remaining_v12 := F1_remaining.keep K3 nin0
  have F1_retryAfter_v13 := F1_retryAfter.keep K3 nin0
  have F1_delay_v14 := F1_delay.keep K3 nin0
  have F1_degraded_v15 := F1_degraded.keep K3 nin0
  have Fz_v16 := Fz.ext E1
  have Fz_v17 := Fz_v16.keep K3 nin0
  have Ez_v18 := Ez.ext E1
  have Ez_v19 := Ez_v18.keep K3
  obtain ⟨_, _, ⟨T20, L20, k20, n20⟩, -, X20, hs20, hg20, ⟨Lc20, hQ20, l20, y20, z20⟩, st20⟩ := X7.specialBackS hx (y := (⟨"com/example/blend2/blend2/Decision", "<init>", "(ZLjava/util/Optional;ILjava/time/Duration;Ljava/time/Duration;Z)V"⟩ : MethodName)) rfl hown (mvT hZ (hw _ (List.mem_of_getElem? (i := 119) rfl))) (mvT hZ (hw _ (List.mem_of_getElem? (i := 120) rfl))) (mvT hZ (hw _ (List.mem_of_getElem? (i := 121) rfl))) (by decide) (backOfS (W := 1) (rmdei l Z a0 hw [] b1 (1 : Int32) o3 p1 wz wz (0 : Int32) (0 : Int64) (0 : Int64) T3.heap n0 Z0_v8 A1_v9 F1_allowed_v10 F1_rule_v11 F1_remaining_v12 F1_retryAfter_v13 F1_delay_v14 F1_degraded_v15 Fz_v17 Ez_v19 (by decide) Fz_v17 Ez_v19 (by decide) hrem g_b1) hZ (hw _ (List.mem_of_getElem? (i := 121) rfl)) (hw _ (List.mem_of_getElem? (i := 94) rfl)) (by decide) (by decide)) (g := (mkF m 15 (LS_RIR r0 p1 wz) [(.int (0 : Int32)), (.ref wz), (.ref wz), (.int p1), (.ref o3), (.int (1 : Int32)), (.ref b1), (.ref b1)])) rfl (by rw [hml]; rfl) (Steps.refl _) (a := b1) (argsL := [(.int (1 : Int32)), (.ref o3), (.int p1), (.ref wz), (.ref wz), (.int (0 : Int32))]) (rest := [(.ref b1)]) (lenOf pd__ZLjava_util_Optional_ILjava_time_Duration_Ljava_time_Duration_Z_V rfl) rfl (by show 2 * 0 + _ ≤ _; exact Nat.le_of_eq rfl) (hb hby d13_15) (fun _ _ => ⟨rfl, e7, (by decide : 2 + 6 ≤ _), (by decide : 7 + 88 ≤ _)⟩)
  dsimp only [Pt.U, Pt.locs, Pt.cells, Pt.slots] at X20 l20 y20 z20 st20 hQ20 hs20 hg20
  subst l20 y20 z20
  have hk0_v21 := Nat.le_trans hk0 E1.1
  have hk0_v22 := Nat.le_trans hk0_v21 K3.1
  have hS20 : s.Since T20.vm T20.heap.size := foldS (s := s) (vm0 := s.vm) (T := T7) (U := T20) hS0 (by rw [e7]; exact hk0_v22) hs20 hg20
  have hZ20 : Z.Warmed39 (s.setVm T20.vm).vm := State.Warmed39.trans (t := s.setVm s.vm) hZ hs20.1
  have ho20 : (s.setVm T20.vm).vm.findClass "com/example/blend2/blend2/Decision" = some m.cls := by rw [show (s.setVm T20.vm).vm = T20.vm from rfl, hs20.1.alike.findClass]; exact hown
  obtain ⟨rfl, N20q, K20⟩ := hQ20
  have N20 := Fr.app N3 N20q
  have hk20 : T20.heap.size ≤ T20.heap.size := Nat.le_refl _
  refine own_go (B := T20.setTop (mkF m 18 (LS_RIR r0 p1 wz) [(.ref b1)])) (fun t k => st20.trans k) ?_
  obtain ⟨fs, hr, hrun, hended, hRW⟩ := Stand.leaveW (s := s) (vm₁ := T20.vm) X20 hS20 hk20 (v := some (.ref b1)) (fun h => by rw [Bd.returns] at h; cases h)
  refine ⟨_, _, ?_, hrun, hended, _, _, rfl, ?_, hRW.1, hRW.2.1, hRW.2.2.1, hRW.2.2.2.mono (by decide) (by decide)⟩
  · show Steps p.tables e below (T20.setTop (mkF m 18 (LS_RIR r0 p1 wz) [(.ref b1)])) _
    exact retOut X20 hx Bd.returns rfl (Or.inr (Or.inr (Or.inr (Or.inr ⟨rfl, rfl, rfl⟩)))) (hb hby d13_18) hr
  · show Qad3 Z r0 p1 wz h0 n0 _ T20.heap _
    have K0_v23 := K0_v4.trans K3 all0
    have K0_v24 := K0_v23.trans K20 (allS (Or.inr sz_b1) all0)
    exact ⟨b1, rfl, N20, K0_v24⟩
theorem ef_ad2 (m : MethodId) (r0 : Addr) (p1 : Int32) : entryFrame m #[(.ref r0), (.int p1)] 2 = mkF m 0 #[.val (.ref r0), .val (.int p1)] [] := by first | (simp [entryFrame, mkF, argsToLocals, Value.category]; done) | rfl
theorem pn_12 : plainName "com/example/blend2/blend2/Decision" = true := by first | (simp [plainName, overriddenIn]; done) | decide +kernel
abbrev LS_RI (a0 : Addr) (a1 : Int32) : Array Slot := #[.val (.ref a0), .val (.int a1)]
theorem d12_0 : decode prog_2_method_3_code 0 = .ok (.aload_n 0, 1) := by decide +kernel
theorem d12_1 : decode prog_2_method_3_code 1 = .ok (.iload_n 1, 1) := by decide +kernel
theorem d12_2 : decode prog_2_method_3_code 2 = .ok (.getstatic 74, 3) := by decide +kernel
theorem d12_5 : decode prog_2_method_3_code 5 = .ok (.invokestatic 80, 3) := by decide +kernel
theorem pd__Lcom_example_blend2_blend2_Rule_ILjava_time_Duration__Lcom_example_blend2_blend2_Decision_ : parseMethodDescriptor "(Lcom/example/blend2/blend2/Rule;ILjava/time/Duration;)Lcom/example/blend2/blend2/Decision;" = some ⟨[(.object "com/example/blend2/blend2/Rule"), .int, (.object "java/time/Duration")], some (.object "com/example/blend2/blend2/Decision")⟩ := by decide +kernel
theorem d12_8 : decode prog_2_method_3_code 8 = .ok (.areturn, 1) := by decide +kernel
def Qad2 (Z : State) (r0 : Addr) (p1 : Int32) (wz : Addr) (h0 : Heap) (n0 : Nat) (v : Option Value) (h : Heap) (L : List Loc) : Prop := ∃ r : Addr, v = some (.ref r) ∧ Fr n0 L ∧ Keep h0 h []
set_option maxRecDepth 65536 in
set_option maxHeartbeats 40000000 in
theorem rmad2 (l : Launch) (Z : State) (a0 : Array Value) (hw : ∀ d ∈ tables_1, d.before a0 Z = true) (ws : List Jvm.Cond) (r0 : Addr) (p1 : Int32) (wz : Addr) (h0 : Heap) (n0 : Nat) (Z0 : n0 ≤ h0.size) (S_ZERO : Sta Z h0 "java/time/Duration" "ZERO" "Ljava/time/Duration;" (.ref wz)) (Ez : Exa Z h0 wz "java/time/Duration") (Fz : Fld Z h0 wz "java/time/Duration" "seconds" "J" (.long (0 : Int64))) (hrem : ¬ (p1 < (0 : Int32))) :
    MetFree l (⟨"com/example/blend2/blend2/Decision", "admitted", "(Lcom/example/blend2/blend2/Rule;I)Lcom/example/blend2/blend2/Decision;"⟩ : MethodName) (head1 (Jvm.Cond.code (⟨"com/example/blend2/blend2/Decision", "admitted", "(Lcom/example/blend2/blend2/Rule;I)Lcom/example/blend2/blend2/Decision;"⟩ : MethodName) prog_2_method_3_code 2 (some (.object "com/example/blend2/blend2/Decision")) :: ws) ({ frames := 4, cells := 8, slots := 95, locals := 90 } : Room)) (fun a U => a = #[(.ref r0), (.int p1)] ∧ Z.Warmed39 U.vm ∧ U.heap = h0) (fun _ _ _ _ _ => True) (fun _ U o U' => ∃ v L, o = .returned v ∧ Qad2 Z r0 p1 wz h0 n0 v U'.heap L ∧ ReturnedEndW U o U' L ({ frames := 4, cells := 8, slots := 95, locals := 90 } : Room).cells ({ frames := 4, cells := 8, slots := 95, locals := 90 } : Room).slots) := by
  refine MetFree.of_bodySF (plainFor_of_name pn_12) hisR ?_
  intro p e s m args below meth c s₁ Bd hml0 hP hK
  obtain ⟨rfl, hZ, hh⟩ := hP
  have hx := Bd.exec
  have hby := Bd.bytes
  have hml : c.maxLocals = 2 := hml0
  have hown : s.vm.findClass "com/example/blend2/blend2/Decision" = some m.cls := findClass_of_methodNamed Bd.named
  have hnm := (name_of_methodNamed Bd.named Bd.method).1
  have X0 : Stand p l e ({ frames := 4, cells := 8, slots := 95, locals := 90 } : Room) s m #[(.ref r0), (.int p1)] below meth c s₁ [] 0 0 := Stand.of_body Bd
  have e0 : s₁.heap = h0 := by rw [← hh, Bd.state]; rfl
  have N0 := Fr.nil n0
  refine own_go (B := s₁.setTop (mkF m 0 (LS_RI r0 p1) [])) (fun t k => castTop (ef_ad2 m r0 p1) k) ?_
  have hS0 : s.Since s.vm 0 := (State.WarmedH.refl s).since 0
  have hk0 : 0 ≤ Array.size h0 := Nat.zero_le _
  have K0 : Keep h0 h0 [] := Keep.refl _ _
  refine own_go (B := s₁.setTop (mkF m 2 (LS_RI r0 p1) [(.int p1), (.ref r0)])) (fun t k => ?_) ?_
  · show Steps p.tables e below (s₁.setTop (mkF m 0 (LS_RI r0 p1) [])) _
    refine XS.aloadN X0.here hx rfl (hb hby d12_0) rfl rfl ?_
    show Steps p.tables e below (s₁.setTop (mkF m 1 (LS_RI r0 p1) [(.ref r0)])) _
    refine XS.iloadN X0.here hx rfl (hb hby d12_1) rfl ?_
    exact k
  obtain ⟨T1, X1, e1, st1⟩ := getS2 X0 hx hZ hown (host := "") (Or.inl (hw _ (List.mem_of_getElem? (i := 96) rfl))) Via.refl e0 S_ZERO (g := (mkF m 2 (LS_RI r0 p1) [(.int p1), (.ref r0)])) rfl (hb hby d12_2)
  refine own_go (B := T1.setTop (mkF m 5 (LS_RI r0 p1) [(.ref wz), (.int p1), (.ref r0)])) (fun t k => st1 _ k) ?_
  obtain ⟨_, _, ⟨T2, L2, k2, n2⟩, -, X2, hs2, hg2, ⟨Lc2, hQ2, l2, y2, z2⟩, st2⟩ := callSS X1 hx (y := (⟨"com/example/blend2/blend2/Decision", "admitted", "(Lcom/example/blend2/blend2/Rule;ILjava/time/Duration;)Lcom/example/blend2/blend2/Decision;"⟩ : MethodName)) hown (mvT hZ (hw _ (List.mem_of_getElem? (i := 98) rfl))) (mvT hZ (hw _ (List.mem_of_getElem? (i := 99) rfl))) (mvT hZ (hw _ (List.mem_of_getElem? (i := 94) rfl))) (mvT hZ (hw _ (List.mem_of_getElem? (i := 100) rfl))) (by decide) (backOfS (W := 0) (rmad3 l Z a0 hw [] r0 p1 wz h0 n0 Z0 S_ZERO Ez Fz hrem) hZ (hw _ (List.mem_of_getElem? (i := 100) rfl)) (hw _ (List.mem_of_getElem? (i := 94) rfl)) (by decide) (by decide)) (g := (mkF m 5 (LS_RI r0 p1) [(.ref wz), (.int p1), (.ref r0)])) rfl (by rw [hml]; rfl) (argsL := [(.ref r0), (.int p1), (.ref wz)]) (rest := []) (lenOf pd__Lcom_example_blend2_blend2_Rule_ILjava_time_Duration__Lcom_example_blend2_blend2_Decision_ rfl) rfl (by show 2 * 0 + _ ≤ _; exact Nat.le_of_eq rfl) (hb hby d12_5) (fun _ _ => ⟨rfl, e1, (by decide : 0 + 8 ≤ _), (by decide : 0 + 95 ≤ _)⟩)
  dsimp only [Pt.U, Pt.locs, Pt.cells, Pt.slots] at X2 l2 y2 z2 st2 hQ2 hs2 hg2
  subst l2 y2 z2
  have hS2 : s.Since T2.vm T2.heap.size := foldS (s := s) (vm0 := s.vm) (T := T1) (U := T2) hS0 (by rw [e1]; exact hk0) hs2 hg2
  have hZ2 : Z.Warmed39 (s.setVm T2.vm).vm := State.Warmed39.trans (t := s.setVm s.vm) hZ hs2.1
  have ho2 : (s.setVm T2.vm).vm.findClass "com/example/blend2/blend2/Decision" = some m.cls := by rw [show (s.setVm T2.vm).vm = T2.vm from rfl, hs2.1.alike.findClass]; exact hown
  obtain ⟨o2, rfl, N2q, K2⟩ := hQ2
  have N2 := Fr.app N0 N2q
  have hk2 : T2.heap.size ≤ T2.heap.size := Nat.le_refl _
  refine own_go (B := T2.setTop (mkF m 8 (LS_RI r0 p1) [(.ref o2)])) (fun t k => st2.trans k) ?_
  obtain ⟨fs, hr, hrun, hended, hRW⟩ := Stand.leaveW (s := s) (vm₁ := T2.vm) X2 hS2 hk2 (v := some (.ref o2)) (fun h => by rw [Bd.returns] at h; cases h)
  refine ⟨_, _, ?_, hrun, hended, _, _, rfl, ?_, hRW.1, hRW.2.1, hRW.2.2.1, hRW.2.2.2.mono (by decide) (by decide)⟩
  · show Steps p.tables e below (T2.setTop (mkF m 8 (LS_RI r0 p1) [(.ref o2)])) _
    exact retOut X2 hx Bd.returns rfl (Or.inr (Or.inr (Or.inr (Or.inr ⟨rfl, rfl, rfl⟩)))) (hb hby d12_8) hr
  · show Qad2 Z r0 p1 wz h0 n0 _ T2.heap _
    have K0_v3 := K0.trans K2 all0
    exact ⟨o2, rfl, N2, K0_v3⟩
theorem ef_ref (m : MethodId) (r0 : Addr) (r1 : Addr) : entryFrame m #[(.ref r0), (.ref r1)] 2 = mkF m 0 #[.val (.ref r0), .val (.ref r1)] [] := by first | (simp [entryFrame, mkF, argsToLocals, Value.category]; done) | rfl
theorem pn_24 : plainName "com/example/blend2/blend2/Decision" = true := by first | (simp [plainName, overriddenIn]; done) | decide +kernel
theorem d24_0 : decode prog_2_method_5_code 0 = .ok (.new 45, 3) := by decide +kernel
theorem d24_3 : decode prog_2_method_5_code 3 = .ok (.dup, 1) := by decide +kernel
theorem d24_4 : decode prog_2_method_5_code 4 = .ok (.iconst 0, 1) := by decide +kernel
theorem d24_5 : decode prog_2_method_5_code 5 = .ok (.aload_n 0, 1) := by decide +kernel
theorem d24_6 : decode prog_2_method_5_code 6 = .ok (.invokestatic 84, 3) := by decide +kernel
theorem d24_9 : decode prog_2_method_5_code 9 = .ok (.iconst 0, 1) := by decide +kernel
theorem d24_10 : decode prog_2_method_5_code 10 = .ok (.aload_n 1, 1) := by decide +kernel
theorem d24_11 : decode prog_2_method_5_code 11 = .ok (.getstatic 74, 3) := by decide +kernel
theorem d24_14 : decode prog_2_method_5_code 14 = .ok (.iconst 0, 1) := by decide +kernel
theorem d24_15 : decode prog_2_method_5_code 15 = .ok (.invokespecial 77, 3) := by decide +kernel
theorem d24_18 : decode prog_2_method_5_code 18 = .ok (.areturn, 1) := by decide +kernel
def Qref (Z : State) (r0 : Addr) (r1 : Addr) (wz : Addr) (q1 : Int64) (h0 : Heap) (n0 : Nat) (v : Option Value) (h : Heap) (L : List Loc) : Prop := ∃ r : Addr, v = some (.ref r) ∧ Fr n0 L ∧ Keep h0 h []
set_option maxRecDepth 65536 in
set_option maxHeartbeats 40000000 in
theorem rmref (l : Launch) (Z : State) (a0 : Array Value) (hw : ∀ d ∈ tables_1, d.before a0 Z = true) (ws : List Jvm.Cond) (r0 : Addr) (r1 : Addr) (wz : Addr) (q1 : Int64) (h0 : Heap) (n0 : Nat) (Z0 : n0 ≤ h0.size) (S_ZERO : Sta Z h0 "java/time/Duration" "ZERO" "Ljava/time/Duration;" (.ref wz)) (Ez : Exa Z h0 wz "java/time/Duration") (Fz : Fld Z h0 wz "java/time/Duration" "seconds" "J" (.long (0 : Int64))) (Xd : Exa Z h0 r1 "java/time/Duration") (Fd : Fld Z h0 r1 "java/time/Duration" "seconds" "J" (.long q1)) (hq : ¬ (q1 < (0 : Int64))) :
    MetFree l (⟨"com/example/blend2/blend2/Decision", "refused", "(Lcom/example/blend2/blend2/Rule;Ljava/time/Duration;)Lcom/example/blend2/blend2/Decision;"⟩ : MethodName) (head1 (Jvm.Cond.code (⟨"com/example/blend2/blend2/Decision", "refused", "(Lcom/example/blend2/blend2/Rule;Ljava/time/Duration;)Lcom/example/blend2/blend2/Decision;"⟩ : MethodName) prog_2_method_5_code 2 (some (.object "com/example/blend2/blend2/Decision")) :: ws) ({ frames := 3, cells := 8, slots := 95, locals := 70 } : Room)) (fun a U => a = #[(.ref r0), (.ref r1)] ∧ Z.Warmed39 U.vm ∧ U.heap = h0) (fun _ _ _ _ _ => True) (fun _ U o U' => ∃ v L, o = .returned v ∧ Qref Z r0 r1 wz q1 h0 n0 v U'.heap L ∧ ReturnedEndW U o U' L ({ frames := 3, cells := 8, slots := 95, locals := 70 } : Room).cells ({ frames := 3, cells := 8, slots := 95, locals := 70 } : Room).slots) := by
  refine MetFree.of_bodySF (plainFor_of_name pn_24) hisR ?_
  intro p e s m args below meth c s₁ Bd hml0 hP hK
  obtain ⟨rfl, hZ, hh⟩ := hP
  have hx := Bd.exec
  have hby := Bd.bytes
  have hml : c.maxLocals = 2 := hml0
  have hown : s.vm.findClass "com/example/blend2/blend2/Decision" = some m.cls := findClass_of_methodNamed Bd.named
  have hnm := (name_of_methodNamed Bd.named Bd.method).1
  have X0 : Stand p l e ({ frames := 3, cells := 8, slots := 95, locals := 70 } : Room) s m #[(.ref r0), (.ref r1)] below meth c s₁ [] 0 0 := Stand.of_body Bd
  have e0 : s₁.heap = h0 := by rw [← hh, Bd.state]; rfl
  have N0 := Fr.nil n0
  refine own_go (B := s₁.setTop (mkF m 0 (LS_RR r0 r1) [])) (fun t k => castTop (ef_ref m r0 r1) k) ?_
  have hS0 : s.Since s.vm 0 := (State.WarmedH.refl s).since 0
  have hk0 : 0 ≤ Array.size h0 := Nat.zero_le _
  have K0 : Keep h0 h0 [] := Keep.refl _ _
  obtain ⟨T1, h1, X1, e1, E1, A1, D1, -, st1⟩ := newO X0 hx hZ hown (hw _ (List.mem_of_getElem? (i := 101) rfl)) (hw _ (List.mem_of_getElem? (i := 102) rfl)) (hw _ (List.mem_of_getElem? (i := 94) rfl)) e0 (g := (mkF m 0 (LS_RR r0 r1) [])) rfl (hb hby d24_0) (by decide) (by decide)
  obtain ⟨b1, g1⟩ : ∃ z, z = h0.size := ⟨_, rfl⟩
  rw [← g1] at A1 D1 st1
  have g_b1 : n0 ≤ b1 := Nat.le_trans Z0 (Nat.le_of_eq g1.symm)
  have sz_b1 : h0.size ≤ b1 := Nat.le_trans K0.1 (Nat.le_of_eq g1.symm)
  have F1_allowed : Fld Z h1 b1 "com/example/blend2/blend2/Decision" "allowed" "Z" (.int (0 : Int32)) := D1 (Or.inr (hw _ (List.mem_of_getElem? (i := 135) rfl))) (ty := .boolean) (by decide)
  have F1_rule : Fld Z h1 b1 "com/example/blend2/blend2/Decision" "rule" "Ljava/util/Optional;" .null := D1 (Or.inr (hw _ (List.mem_of_getElem? (i := 137) rfl))) (ty := (.object "java/util/Optional")) (by decide)
  have F1_remaining : Fld Z h1 b1 "com/example/blend2/blend2/Decision" "remaining" "I" (.int (0 : Int32)) := D1 (Or.inr (hw _ (List.mem_of_getElem? (i := 139) rfl))) (ty := .int) (by decide)
  have F1_retryAfter : Fld Z h1 b1 "com/example/blend2/blend2/Decision" "retryAfter" "Ljava/time/Duration;" .null := D1 (Or.inr (hw _ (List.mem_of_getElem? (i := 141) rfl))) (ty := (.object "java/time/Duration")) (by decide)
  have F1_delay : Fld Z h1 b1 "com/example/blend2/blend2/Decision" "delay" "Ljava/time/Duration;" .null := D1 (Or.inr (hw _ (List.mem_of_getElem? (i := 143) rfl))) (ty := (.object "java/time/Duration")) (by decide)
  have F1_degraded : Fld Z h1 b1 "com/example/blend2/blend2/Decision" "degraded" "Z" (.int (0 : Int32)) := D1 (Or.inr (hw _ (List.mem_of_getElem? (i := 145) rfl))) (ty := .boolean) (by decide)
  refine own_go (B := T1.setTop (mkF m 3 (LS_RR r0 r1) [(.ref b1)])) (fun t k => st1 _ k) ?_
  refine own_go (B := T1.setTop (mkF m 6 (LS_RR r0 r1) [(.ref r0), (.int (0 : Int32)), (.ref b1), (.ref b1)])) (fun t k => ?_) ?_
  · show Steps p.tables e below (T1.setTop (mkF m 3 (LS_RR r0 r1) [(.ref b1)])) _
    refine XS.dup X1.here hx rfl (hb hby d24_3) rfl rfl ?_
    show Steps p.tables e below (T1.setTop (mkF m 4 (LS_RR r0 r1) [(.ref b1), (.ref b1)])) _
    refine XS.iconst X1.here hx rfl (hb hby d24_4) ?_
    show Steps p.tables e below (T1.setTop (mkF m 5 (LS_RR r0 r1) [(.int (0 : Int32)), (.ref b1), (.ref b1)])) _
    refine XS.aloadN X1.here hx rfl (hb hby d24_5) rfl rfl ?_
    exact k
  have Z0_v2 := Nat.le_trans Z0 E1.1
  obtain ⟨_, _, ⟨T3, L3, k3, n3⟩, -, X3, ⟨Lc3, hQ3, l3, y3, z3⟩, st3⟩ := Jvm.LawKit.callS X1 hx (y := (⟨"java/util/Optional", "of", "(Ljava/lang/Object;)Ljava/util/Optional;"⟩ : MethodName)) hown (mvT hZ (hw _ (List.mem_of_getElem? (i := 103) rfl))) (mvT hZ (hw _ (List.mem_of_getElem? (i := 104) rfl))) (mvT hZ (hw _ (List.mem_of_getElem? (i := 105) rfl))) (mvT hZ (hw _ (List.mem_of_getElem? (i := 106) rfl))) (by decide) (backOf (W := 3) (rmopo l Z a0 hw [] r0 h1 n0 Z0_v2) hZ (hw _ (List.mem_of_getElem? (i := 106) rfl)) (hw _ (List.mem_of_getElem? (i := 105) rfl)) (by decide) (by decide)) (g := (mkF m 6 (LS_RR r0 r1) [(.ref r0), (.int (0 : Int32)), (.ref b1), (.ref b1)])) rfl (by rw [hml]; rfl) (argsL := [(.ref r0)]) (rest := [(.int (0 : Int32)), (.ref b1), (.ref b1)]) (lenOf pd__Ljava_lang_Object__Ljava_util_Optional_ rfl) rfl (by show 2 * 0 + _ ≤ _; exact Nat.le_of_eq rfl) (hb hby d24_6) (fun _ _ => ⟨rfl, e1, (by decide : 1 + 1 ≤ _), (by decide : 6 + 1 ≤ _)⟩)
  dsimp only [Pt.U, Pt.locs, Pt.cells, Pt.slots] at X3 l3 y3 z3 st3 hQ3
  subst l3 y3 z3
  obtain ⟨o3, rfl, N3q, hfr3, K3⟩ := hQ3
  have N3 := Fr.app N0 N3q
  have g_o3 : n0 ≤ o3 := Nat.le_trans Z0_v2 hfr3
  have K0_v4 := K0.ext E1
  have sz_o3 : h0.size ≤ o3 := Nat.le_trans K0_v4.1 hfr3
  refine own_go (B := T3.setTop (mkF m 9 (LS_RR r0 r1) [(.ref o3), (.int (0 : Int32)), (.ref b1), (.ref b1)])) (fun t k => st3 _ k) ?_
  have S_ZERO_v5 := S_ZERO.ext E1
  have S_ZERO_v6 := own_sta_keep S_ZERO_v5 K3 all0
  refine own_go (B := T3.setTop (mkF m 11 (LS_RR r0 r1) [(.ref r1), (.int (0 : Int32)), (.ref o3), (.int (0 : Int32)), (.ref b1), (.ref b1)])) (fun t k => ?_) ?_
  · show Steps p.tables e below (T3.setTop (mkF m 9 (LS_RR r0 r1) [(.ref o3), (.int (0 : Int32)), (.ref b1), (.ref b1)])) _
    refine XS.iconst X3.here hx rfl (hb hby d24_9) ?_
    show Steps p.tables e below (T3.setTop (mkF m 10 (LS_RR r0 r1) [(.int (0 : Int32)), (.ref o3), (.int (0 : Int32)), (.ref b1), (.ref b1)])) _
    refine XS.aloadN X3.here hx rfl (hb hby d24_10) rfl rfl ?_
    exact k
  obtain ⟨T7, X7, e7, st7⟩ := getS2 X3 hx hZ hown (host := "") (Or.inl (hw _ (List.mem_of_getElem? (i := 96) rfl))) Via.refl rfl S_ZERO_v6 (g := (mkF m 11 (LS_RR r0 r1) [(.ref r1), (.int (0 : Int32)), (.ref o3), (.int (0 : Int32)), (.ref b1), (.ref b1)])) rfl (hb hby d24_11)
  refine own_go (B := T7.setTop (mkF m 14 (LS_RR r0 r1) [(.ref wz), (.ref r1), (.int (0 : Int32)), (.ref o3), (.int (0 : Int32)), (.ref b1), (.ref b1)])) (fun t k => st7 _ k) ?_
  refine own_go (B := T7.setTop (mkF m 15 (LS_RR r0 r1) [(.int (0 : Int32)), (.ref wz), (.ref r1), (.int (0 : Int32)), (.ref o3), (.int (0 : Int32)), (.ref b1), (.ref b1)])) (fun t k => ?_) ?_
  · show Steps p.tables e below (T7.setTop (mkF m 14 (LS_RR r0 r1) [(.ref wz), (.ref r1), (.int (0 : Int32)), (.ref o3), (.int (0 : Int32)), (.ref b1), (.ref b1)])) _
    refine XS.iconst X7.here hx rfl (hb hby d24_14) ?_
    exact k
  have Z0_v8 := Nat.le_trans Z0_v2 K3.1
  have A1_v9 := A1.keep K3
  have F1_allowed_v10 := F1_allowed.keep K3 nin0
  have F1_rule_v11 := F1_rule.keep K3 nin0
  have F1_remaining_v12 := F1_remaining.keep K3 nin0
  have F1_retryAfter_v13 := F1_retryAfter.keep K3 nin0
  have F1_delay_v14 := F1_delay.keep K3 nin0
  have F1_degraded_v15 := F1_degraded.keep K3 nin0
  have Fd_v16 := Fd.ext E1
  have Fd_v17 := Fd_v16.keep K3 nin0
  have Xd_v18 := Xd.ext E1
  have Xd_v19 := Xd_v18.keep K3
  have Fz_v20 := Fz.ext E1
  have Fz_v21 := Fz_v20.keep K3 nin0
  have Ez_v22 := Ez.ext E1
  have Ez_v23 := Ez_v22.keep K3
  obtain ⟨_, _, ⟨T24, L24, k24, n24⟩, -, X24, hs24, hg24, ⟨Lc24, hQ24, l24, y24, z24⟩, st24⟩ := X7.specialBackS hx (y := (⟨"com/example/blend2/blend2/Decision", "<init>", "(ZLjava/util/Optional;ILjava/time/Duration;Ljava/time/Duration;Z)V"⟩ : MethodName)) rfl hown (mvT hZ (hw _ (List.mem_of_getElem? (i := 119) rfl))) (mvT hZ (hw _ (List.mem_of_getElem? (i := 120) rfl))) (mvT hZ (hw _ (List.mem_of_getElem? (i := 121) rfl))) (by decide) (backOfS (W := 1) (rmdei l Z a0 hw [] b1 (0 : Int32) o3 (0 : Int32) r1 wz (0 : Int32) q1 (0 : Int64) T3.heap n0 Z0_v8 A1_v9 F1_allowed_v10 F1_rule_v11 F1_remaining_v12 F1_retryAfter_v13 F1_delay_v14 F1_degraded_v15 Fd_v17 Xd_v19 hq Fz_v21 Ez_v23 (by decide) (by decide) g_b1) hZ (hw _ (List.mem_of_getElem? (i := 121) rfl)) (hw _ (List.mem_of_getElem? (i := 94) rfl)) (by decide) (by decide)) (g := (mkF m 15 (LS_RR r0 r1) [(.int (0 : Int32)), (.ref wz), (.ref r1), (.int (0 : Int32)), (.ref o3), (.int (0 : Int32)), (.ref b1), (.ref b1)])) rfl (by rw [hml]; rfl) (Steps.refl _) (a := b1) (argsL := [(.int (0 : Int32)), (.ref o3), (.int (0 : Int32)), (.ref r1), (.ref wz), (.int (0 : Int32))]) (rest := [(.ref b1)]) (lenOf pd__ZLjava_util_Optional_ILjava_time_Duration_Ljava_time_Duration_Z_V rfl) rfl (by show 2 * 0 + _ ≤ _; exact Nat.le_of_eq rfl) (hb hby d24_15) (fun _ _ => ⟨rfl, e7, (by decide : 2 + 6 ≤ _), (by decide : 7 + 88 ≤ _)⟩)
  dsimp only [Pt.U, Pt.locs, Pt.cells, Pt.slots] at X24 l24 y24 z24 st24 hQ24 hs24 hg24
  subst l24 y24 z24
  have hk0_v25 := Nat.le_trans hk0 E1.1
  have hk0_v26 := Nat.le_trans hk0_v25 K3.1
  have hS24 : s.Since T24.vm T24.heap.size := foldS (s := s) (vm0 := s.vm) (T := T7) (U := T24) hS0 (by rw [e7]; exact hk0_v26) hs24 hg24
  have hZ24 : Z.Warmed39 (s.setVm T24.vm).vm := State.Warmed39.trans (t := s.setVm s.vm) hZ hs24.1
  have ho24 : (s.setVm T24.vm).vm.findClass "com/example/blend2/blend2/Decision" = some m.cls := by rw [show (s.setVm T24.vm).vm = T24.vm from rfl, hs24.1.alike.findClass]; exact hown
  obtain ⟨rfl, N24q, K24⟩ := hQ24
  have N24 := Fr.app N3 N24q
  have hk24 : T24.heap.size ≤ T24.heap.size := Nat.le_refl _
  refine own_go (B := T24.setTop (mkF m 18 (LS_RR r0 r1) [(.ref b1)])) (fun t k => st24.trans k) ?_
  obtain ⟨fs, hr, hrun, hended, hRW⟩ := Stand.leaveW (s := s) (vm₁ := T24.vm) X24 hS24 hk24 (v := some (.ref b1)) (fun h => by rw [Bd.returns] at h; cases h)
  refine ⟨_, _, ?_, hrun, hended, _, _, rfl, ?_, hRW.1, hRW.2.1, hRW.2.2.1, hRW.2.2.2.mono (by decide) (by decide)⟩
  · show Steps p.tables e below (T24.setTop (mkF m 18 (LS_RR r0 r1) [(.ref b1)])) _
    exact retOut X24 hx Bd.returns rfl (Or.inr (Or.inr (Or.inr (Or.inr ⟨rfl, rfl, rfl⟩)))) (hb hby d24_18) hr
  · show Qref Z r0 r1 wz q1 h0 n0 _ T24.heap _
    have K0_v27 := K0_v4.trans K3 all0
    have K0_v28 := K0_v27.trans K24 (allS (Or.inr sz_b1) all0)
    exact ⟨b1, rfl, N24, K0_v28⟩
theorem ef_ru5 (m : MethodId) (r0 : Addr) (r1 : Addr) (p2 : Int32) (p3 : Int32) (r4 : Addr) (r5 : Addr) : entryFrame m #[(.ref r0), (.ref r1), (.int p2), (.int p3), (.ref r4), (.ref r5)] 6 = mkF m 0 #[.val (.ref r0), .val (.ref r1), .val (.int p2), .val (.int p3), .val (.ref r4), .val (.ref r5)] [] := by first | (simp [entryFrame, mkF, argsToLocals, Value.category]; done) | rfl
theorem pn_3 : plainName "com/example/blend2/blend2/Rule" = true := by first | (simp [plainName, overriddenIn]; done) | decide +kernel
abbrev LS_RRIIRR (a0 : Addr) (a1 : Addr) (a2 : Int32) (a3 : Int32) (a4 : Addr) (a5 : Addr) : Array Slot := #[.val (.ref a0), .val (.ref a1), .val (.int a2), .val (.int a3), .val (.ref a4), .val (.ref a5)]
theorem d3_0 : decode prog_11_method_1_code 0 = .ok (.aload_n 0, 1) := by decide +kernel
theorem d3_1 : decode prog_11_method_1_code 1 = .ok (.invokespecial 1, 3) := by decide +kernel
theorem d3_4 : decode prog_11_method_1_code 4 = .ok (.aload_n 1, 1) := by decide +kernel
theorem d3_5 : decode prog_11_method_1_code 5 = .ok (.ldc 7, 2) := by decide +kernel
theorem d3_7 : decode prog_11_method_1_code 7 = .ok (.invokestatic 9, 3) := by decide +kernel
theorem d3_10 : decode prog_11_method_1_code 10 = .ok (.pop, 1) := by decide +kernel
theorem d3_11 : decode prog_11_method_1_code 11 = .ok (.aload 4, 2) := by decide +kernel
theorem d3_13 : decode prog_11_method_1_code 13 = .ok (.ldc 15, 2) := by decide +kernel
theorem d3_15 : decode prog_11_method_1_code 15 = .ok (.invokestatic 9, 3) := by decide +kernel
theorem d3_18 : decode prog_11_method_1_code 18 = .ok (.pop, 1) := by decide +kernel
theorem d3_19 : decode prog_11_method_1_code 19 = .ok (.aload 5, 2) := by decide +kernel
theorem d3_21 : decode prog_11_method_1_code 21 = .ok (.ldc 17, 2) := by decide +kernel
theorem d3_23 : decode prog_11_method_1_code 23 = .ok (.invokestatic 9, 3) := by decide +kernel
theorem d3_26 : decode prog_11_method_1_code 26 = .ok (.pop, 1) := by decide +kernel
theorem d3_27 : decode prog_11_method_1_code 27 = .ok (.iload_n 2, 1) := by decide +kernel
theorem d3_28 : decode prog_11_method_1_code 28 = .ok (.iconst 1, 1) := by decide +kernel
theorem d3_29 : decode prog_11_method_1_code 29 = .ok (.if_icmp .ge 17, 3) := by decide +kernel
theorem d3_46 : decode prog_11_method_1_code 46 = .ok (.iload_n 3, 1) := by decide +kernel
theorem d3_47 : decode prog_11_method_1_code 47 = .ok (.iconst 1, 1) := by decide +kernel
theorem d3_48 : decode prog_11_method_1_code 48 = .ok (.if_icmp .ge 17, 3) := by decide +kernel
theorem d3_65 : decode prog_11_method_1_code 65 = .ok (.aload_n 0, 1) := by decide +kernel
theorem d3_66 : decode prog_11_method_1_code 66 = .ok (.aload_n 1, 1) := by decide +kernel
theorem d3_67 : decode prog_11_method_1_code 67 = .ok (.putfield 29, 3) := by decide +kernel
theorem d3_70 : decode prog_11_method_1_code 70 = .ok (.aload_n 0, 1) := by decide +kernel
theorem d3_71 : decode prog_11_method_1_code 71 = .ok (.iload_n 2, 1) := by decide +kernel
theorem d3_72 : decode prog_11_method_1_code 72 = .ok (.putfield 34, 3) := by decide +kernel
theorem d3_75 : decode prog_11_method_1_code 75 = .ok (.aload_n 0, 1) := by decide +kernel
theorem d3_76 : decode prog_11_method_1_code 76 = .ok (.iload_n 3, 1) := by decide +kernel
theorem d3_77 : decode prog_11_method_1_code 77 = .ok (.putfield 38, 3) := by decide +kernel
theorem d3_80 : decode prog_11_method_1_code 80 = .ok (.aload_n 0, 1) := by decide +kernel
theorem d3_81 : decode prog_11_method_1_code 81 = .ok (.aload 4, 2) := by decide +kernel
theorem d3_83 : decode prog_11_method_1_code 83 = .ok (.putfield 41, 3) := by decide +kernel
theorem d3_86 : decode prog_11_method_1_code 86 = .ok (.aload_n 0, 1) := by decide +kernel
theorem d3_87 : decode prog_11_method_1_code 87 = .ok (.aload 5, 2) := by decide +kernel
theorem d3_89 : decode prog_11_method_1_code 89 = .ok (.putfield 44, 3) := by decide +kernel
theorem d3_92 : decode prog_11_method_1_code 92 = .ok (.return_, 1) := by decide +kernel
def Qru5 (Z : State) (r0 : Addr) (r1 : Addr) (p2 : Int32) (p3 : Int32) (r4 : Addr) (r5 : Addr) (h0 : Heap) (n0 : Nat) (v : Option Value) (h : Heap) (L : List Loc) : Prop := v = none ∧ Fr n0 L ∧ Keep h0 h [r0] ∧ Fld Z h r0 "com/example/blend2/blend2/Rule" "capacity" "I" (.int p2) ∧ Fld Z h r0 "com/example/blend2/blend2/Rule" "timeWindowSec" "I" (.int p3)
set_option maxRecDepth 65536 in
set_option maxHeartbeats 40000000 in
theorem rmru5 (l : Launch) (Z : State) (a0 : Array Value) (hw : ∀ d ∈ tables_1, d.before a0 Z = true) (ws : List Jvm.Cond) (r0 : Addr) (r1 : Addr) (p2 : Int32) (p3 : Int32) (r4 : Addr) (r5 : Addr) (h0 : Heap) (n0 : Nat) (Z0 : n0 ≤ h0.size) (E0 : Exa Z h0 r0 "com/example/blend2/blend2/Rule") (F0 : Fld Z h0 r0 "com/example/blend2/blend2/Rule" "name" "Ljava/lang/String;" .null) (F1 : Fld Z h0 r0 "com/example/blend2/blend2/Rule" "capacity" "I" (.int (0 : Int32))) (F2 : Fld Z h0 r0 "com/example/blend2/blend2/Rule" "timeWindowSec" "I" (.int (0 : Int32))) (F3 : Fld Z h0 r0 "com/example/blend2/blend2/Rule" "algorithm" "Lcom/example/blend2/blend2/Algorithm;" .null) (F4 : Fld Z h0 r0 "com/example/blend2/blend2/Rule" "onStoreFailure" "Lcom/example/blend2/blend2/StoreFailurePolicy;" .null) (hcap : ¬ (p2 < (1 : Int32))) (hsec : ¬ (p3 < (1 : Int32))) (g_r0 : n0 ≤ r0) :
    MetFree l (⟨"com/example/blend2/blend2/Rule", "<init>", "(Ljava/lang/String;IILcom/example/blend2/blend2/Algorithm;Lcom/example/blend2/blend2/StoreFailurePolicy;)V"⟩ : MethodName) (head1 (Jvm.Cond.code (⟨"com/example/blend2/blend2/Rule", "<init>", "(Ljava/lang/String;IILcom/example/blend2/blend2/Algorithm;Lcom/example/blend2/blend2/StoreFailurePolicy;)V"⟩ : MethodName) prog_11_method_1_code 6 none :: ws) ({ frames := 2, cells := 6, slots := 120, locals := 40 } : Room)) (fun a U => a = #[(.ref r0), (.ref r1), (.int p2), (.int p3), (.ref r4), (.ref r5)] ∧ Z.Warmed39 U.vm ∧ U.heap = h0) (fun _ _ _ _ _ => True) (fun _ U o U' => ∃ v L, o = .returned v ∧ Qru5 Z r0 r1 p2 p3 r4 r5 h0 n0 v U'.heap L ∧ ReturnedEndW U o U' L ({ frames := 2, cells := 6, slots := 120, locals := 40 } : Room).cells ({ frames := 2, cells := 6, slots := 120, locals := 40 } : Room).slots) := by
  refine MetFree.of_bodySF (plainFor_of_name pn_3) hisR ?_
  intro p e s m args below meth c s₁ Bd hml0 hP hK
  obtain ⟨rfl, hZ, hh⟩ := hP
  have hx := Bd.exec
  have hby := Bd.bytes
  have hml : c.maxLocals = 6 := hml0
  have hown : s.vm.findClass "com/example/blend2/blend2/Rule" = some m.cls := findClass_of_methodNamed Bd.named
  have hnm := (name_of_methodNamed Bd.named Bd.method).1
  have X0 : Stand p l e ({ frames := 2, cells := 6, slots := 120, locals := 40 } : Room) s m #[(.ref r0), (.ref r1), (.int p2), (.int p3), (.ref r4), (.ref r5)] below meth c s₁ [] 0 0 := Stand.of_body Bd
  have e0 : s₁.heap = h0 := by rw [← hh, Bd.state]; rfl
  have N0 := Fr.nil n0
  refine own_go (B := s₁.setTop (mkF m 0 (LS_RRIIRR r0 r1 p2 p3 r4 r5) [])) (fun t k => castTop (ef_ru5 m r0 r1 p2 p3 r4 r5) k) ?_
  have hS0 : s.Since s.vm 0 := (State.WarmedH.refl s).since 0
  have hk0 : 0 ≤ Array.size h0 := Nat.zero_le _
  have K0 : Keep h0 h0 [r0] := Keep.refl _ _
  refine own_go (B := s₁.setTop (mkF m 1 (LS_RRIIRR r0 r1 p2 p3 r4 r5) [(.ref r0)])) (fun t k => ?_) ?_
  · show Steps p.tables e below (s₁.setTop (mkF m 0 (LS_RRIIRR r0 r1 p2 p3 r4 r5) [])) _
    refine XS.aloadN X0.here hx rfl (hb hby d3_0) rfl rfl ?_
    exact k
  obtain ⟨_, _, ⟨T1, L1, k1, n1⟩, -, X1, ⟨Lc1, hQ1, l1, y1, z1⟩, st1⟩ := X0.specialBack hx (y := (⟨"java/lang/Record", "<init>", "()V"⟩ : MethodName)) rfl hown (mvT hZ (hw _ (List.mem_of_getElem? (i := 36) rfl))) (mvT hZ (hw _ (List.mem_of_getElem? (i := 37) rfl))) (mvT hZ (hw _ (List.mem_of_getElem? (i := 40) rfl))) (by decide) (backOf (W := 0) (rmrec l Z a0 hw [] r0 h0 n0 Z0) hZ (hw _ (List.mem_of_getElem? (i := 40) rfl)) (hw _ (List.mem_of_getElem? (i := 39) rfl)) (by decide) (by decide)) (g := (mkF m 1 (LS_RRIIRR r0 r1 p2 p3 r4 r5) [(.ref r0)])) rfl (by rw [hml]; rfl) (Steps.refl _) (a := r0) (argsL := []) (rest := []) (lenOf pd___V rfl) rfl (by show 2 * 0 + _ ≤ _; exact Nat.le_of_eq rfl) (hb hby d3_1) (fun _ _ => ⟨rfl, e0, (by decide : 0 + 0 ≤ _), (by decide : 0 + 0 ≤ _)⟩)
  dsimp only [Pt.U, Pt.locs, Pt.cells, Pt.slots] at X1 l1 y1 z1 st1 hQ1
  subst l1 y1 z1
  obtain ⟨rfl, N1q, e1⟩ := hQ1
  have N1 := Fr.app N0 N1q
  refine own_go (B := T1.setTop (mkF m 4 (LS_RRIIRR r0 r1 p2 p3 r4 r5) [])) (fun t k => st1.trans k) ?_
  refine own_go (B := T1.setTop (mkF m 5 (LS_RRIIRR r0 r1 p2 p3 r4 r5) [(.ref r1)])) (fun t k => ?_) ?_
  · show Steps p.tables e below (T1.setTop (mkF m 4 (LS_RRIIRR r0 r1 p2 p3 r4 r5) [])) _
    refine XS.aloadN X1.here hx rfl (hb hby d3_4) rfl rfl ?_
    exact k
  obtain ⟨sa2, T2, h2, kk2, X2, e2, E2, hS2, hk2, hZ2, ho2, st2⟩ := ldcS (s := s) (vm0 := s.vm) X1 hx hZ hown (hw _ (List.mem_of_getElem? (i := 44) rfl)) (own_strs hw) e1 hS0 hk0 (g := (mkF m 5 (LS_RRIIRR r0 r1 p2 p3 r4 r5) [(.ref r1)])) rfl (hb hby d3_5) (n := 16) (by decide) (by decide) (by decide) (by decide)
  refine own_go (B := T2.setTop (mkF m 7 (LS_RRIIRR r0 r1 p2 p3 r4 r5) [(.ref sa2), (.ref r1)])) (fun t k => st2 _ k) ?_
  have Z0_v3 := Nat.le_trans Z0 E2.1
  obtain ⟨_, _, ⟨T4, L4, k4, n4⟩, -, X4, ⟨Lc4, hQ4, l4, y4, z4⟩, st4⟩ := Jvm.LawKit.callS X2 hx (y := (⟨"java/util/Objects", "requireNonNull", "(Ljava/lang/Object;Ljava/lang/String;)Ljava/lang/Object;"⟩ : MethodName)) ho2 (mvT hZ2 (hw _ (List.mem_of_getElem? (i := 45) rfl))) (mvT hZ2 (hw _ (List.mem_of_getElem? (i := 46) rfl))) (mvT hZ2 (hw _ (List.mem_of_getElem? (i := 47) rfl))) (mvT hZ2 (hw _ (List.mem_of_getElem? (i := 48) rfl))) (by decide) (backOf (W := 0) (rmrn2 l Z a0 hw [] r1 sa2 h2 n0 Z0_v3) hZ2 (hw _ (List.mem_of_getElem? (i := 48) rfl)) (hw _ (List.mem_of_getElem? (i := 47) rfl)) (by decide) (by decide)) (g := (mkF m 7 (LS_RRIIRR r0 r1 p2 p3 r4 r5) [(.ref sa2), (.ref r1)])) rfl (by rw [hml]; rfl) (argsL := [(.ref r1), (.ref sa2)]) (rest := []) (lenOf pd__Ljava_lang_Object_Ljava_lang_String__Ljava_lang_Object_ rfl) rfl (by show 2 * 0 + _ ≤ _; exact Nat.le_of_eq rfl) (hb hby d3_7) (fun _ _ => ⟨rfl, e2, (by decide : 2 + 0 ≤ _), (by decide : 20 + 0 ≤ _)⟩)
  dsimp only [Pt.U, Pt.locs, Pt.cells, Pt.slots] at X4 l4 y4 z4 st4 hQ4
  subst l4 y4 z4
  obtain ⟨rfl, N4q, e4⟩ := hQ4
  have N4 := Fr.app N1 N4q
  refine own_go (B := T4.setTop (mkF m 10 (LS_RRIIRR r0 r1 p2 p3 r4 r5) [(.ref r1)])) (fun t k => st4 _ k) ?_
  refine own_go (B := T4.setTop (mkF m 13 (LS_RRIIRR r0 r1 p2 p3 r4 r5) [(.ref r4)])) (fun t k => ?_) ?_
  · show Steps p.tables e below (T4.setTop (mkF m 10 (LS_RRIIRR r0 r1 p2 p3 r4 r5) [(.ref r1)])) _
    refine XS.pop X4.here hx rfl (hb hby d3_10) rfl rfl ?_
    show Steps p.tables e below (T4.setTop (mkF m 11 (LS_RRIIRR r0 r1 p2 p3 r4 r5) [])) _
    refine XS.aload X4.here hx rfl (hb hby d3_11) rfl rfl ?_
    exact k
  obtain ⟨sa5, T5, h5, kk5, X5, e5, E5, hS5, hk5, hZ5, ho5, st5⟩ := ldcS (s := s) (vm0 := T2.vm) X4 hx hZ2 ho2 (hw _ (List.mem_of_getElem? (i := 49) rfl)) (own_strs hw) e4 hS2 hk2 (g := (mkF m 13 (LS_RRIIRR r0 r1 p2 p3 r4 r5) [(.ref r4)])) rfl (hb hby d3_13) (n := 36) (by decide) (by decide) (by decide) (by decide)
  refine own_go (B := T5.setTop (mkF m 15 (LS_RRIIRR r0 r1 p2 p3 r4 r5) [(.ref sa5), (.ref r4)])) (fun t k => st5 _ k) ?_
  have Z0_v6 := Nat.le_trans Z0_v3 E5.1
  obtain ⟨_, _, ⟨T7, L7, k7, n7⟩, -, X7, ⟨Lc7, hQ7, l7, y7, z7⟩, st7⟩ := Jvm.LawKit.callS X5 hx (y := (⟨"java/util/Objects", "requireNonNull", "(Ljava/lang/Object;Ljava/lang/String;)Ljava/lang/Object;"⟩ : MethodName)) ho5 (mvT hZ5 (hw _ (List.mem_of_getElem? (i := 45) rfl))) (mvT hZ5 (hw _ (List.mem_of_getElem? (i := 46) rfl))) (mvT hZ5 (hw _ (List.mem_of_getElem? (i := 47) rfl))) (mvT hZ5 (hw _ (List.mem_of_getElem? (i := 48) rfl))) (by decide) (backOf (W := 0) (rmrn2 l Z a0 hw [] r4 sa5 h5 n0 Z0_v6) hZ5 (hw _ (List.mem_of_getElem? (i := 48) rfl)) (hw _ (List.mem_of_getElem? (i := 47) rfl)) (by decide) (by decide)) (g := (mkF m 15 (LS_RRIIRR r0 r1 p2 p3 r4 r5) [(.ref sa5), (.ref r4)])) rfl (by rw [hml]; rfl) (argsL := [(.ref r4), (.ref sa5)]) (rest := []) (lenOf pd__Ljava_lang_Object_Ljava_lang_String__Ljava_lang_Object_ rfl) rfl (by show 2 * 0 + _ ≤ _; exact Nat.le_of_eq rfl) (hb hby d3_15) (fun _ _ => ⟨rfl, e5, (by decide : 4 + 0 ≤ _), (by decide : 60 + 0 ≤ _)⟩)
  dsimp only [Pt.U, Pt.locs, Pt.cells, Pt.slots] at X7 l7 y7 z7 st7 hQ7
  subst l7 y7 z7
  obtain ⟨rfl, N7q, e7⟩ := hQ7
  have N7 := Fr.app N4 N7q
  refine own_go (B := T7.setTop (mkF m 18 (LS_RRIIRR r0 r1 p2 p3 r4 r5) [(.ref r4)])) (fun t k => st7 _ k) ?_
  refine own_go (B := T7.setTop (mkF m 21 (LS_RRIIRR r0 r1 p2 p3 r4 r5) [(.ref r5)])) (fun t k => ?_) ?_
  · show Steps p.tables e below (T7.setTop (mkF m 18 (LS_RRIIRR r0 r1 p2 p3 r4 r5) [(.ref r4)])) _
    refine XS.pop X7.here hx rfl (hb hby d3_18) rfl rfl ?_
    show Steps p.tables e below (T7.setTop (mkF m 19 (LS_RRIIRR r0 r1 p2 p3 r4 r5) [])) _
    refine XS.aload X7.here hx rfl (hb hby d3_19) rfl rfl ?_
    exact k
  obtain ⟨sa8, T8, h8, kk8, X8, e8, E8, hS8, hk8, hZ8, ho8, st8⟩ := ldcS (s := s) (vm0 := T5.vm) X7 hx hZ5 ho5 (hw _ (List.mem_of_getElem? (i := 50) rfl)) (own_strs hw) e7 hS5 hk5 (g := (mkF m 21 (LS_RRIIRR r0 r1 p2 p3 r4 r5) [(.ref r5)])) rfl (hb hby d3_21) (n := 56) (by decide) (by decide) (by decide) (by decide)
  refine own_go (B := T8.setTop (mkF m 23 (LS_RRIIRR r0 r1 p2 p3 r4 r5) [(.ref sa8), (.ref r5)])) (fun t k => st8 _ k) ?_
  have Z0_v9 := Nat.le_trans Z0_v6 E8.1
  obtain ⟨_, _, ⟨T10, L10, k10, n10⟩, -, X10, ⟨Lc10, hQ10, l10, y10, z10⟩, st10⟩ := Jvm.LawKit.callS X8 hx (y := (⟨"java/util/Objects", "requireNonNull", "(Ljava/lang/Object;Ljava/lang/String;)Ljava/lang/Object;"⟩ : MethodName)) ho8 (mvT hZ8 (hw _ (List.mem_of_getElem? (i := 45) rfl))) (mvT hZ8 (hw _ (List.mem_of_getElem? (i := 46) rfl))) (mvT hZ8 (hw _ (List.mem_of_getElem? (i := 47) rfl))) (mvT hZ8 (hw _ (List.mem_of_getElem? (i := 48) rfl))) (by decide) (backOf (W := 0) (rmrn2 l Z a0 hw [] r5 sa8 h8 n0 Z0_v9) hZ8 (hw _ (List.mem_of_getElem? (i := 48) rfl)) (hw _ (List.mem_of_getElem? (i := 47) rfl)) (by decide) (by decide)) (g := (mkF m 23 (LS_RRIIRR r0 r1 p2 p3 r4 r5) [(.ref sa8), (.ref r5)])) rfl (by rw [hml]; rfl) (argsL := [(.ref r5), (.ref sa8)]) (rest := []) (lenOf pd__Ljava_lang_Object_Ljava_lang_String__Ljava_lang_Object_ rfl) rfl (by show 2 * 0 + _ ≤ _; exact Nat.le_of_eq rfl) (hb hby d3_23) (fun _ _ => ⟨rfl, e8, (by decide : 6 + 0 ≤ _), (by decide : 120 + 0 ≤ _)⟩)
  dsimp only [Pt.U, Pt.locs, Pt.cells, Pt.slots] at X10 l10 y10 z10 st10 hQ10
  subst l10 y10 z10
  obtain ⟨rfl, N10q, e10⟩ := hQ10
  have N10 := Fr.app N7 N10q
  refine own_go (B := T10.setTop (mkF m 26 (LS_RRIIRR r0 r1 p2 p3 r4 r5) [(.ref r5)])) (fun t k => st10 _ k) ?_
  refine own_go (B := T10.setTop (mkF m 67 (LS_RRIIRR r0 r1 p2 p3 r4 r5) [(.ref r1), (.ref r0)])) (fun t k => ?_) ?_
  · show Steps p.tables e below (T10.setTop (mkF m 26 (LS_RRIIRR r0 r1 p2 p3 r4 r5) [(.ref r5)])) _
    refine XS.pop X10.here hx rfl (hb hby d3_26) rfl rfl ?_
    show Steps p.tables e below (T10.setTop (mkF m 27 (LS_RRIIRR r0 r1 p2 p3 r4 r5) [])) _
    refine XS.iloadN X10.here hx rfl (hb hby d3_27) rfl ?_
    show Steps p.tables e below (T10.setTop (mkF m 28 (LS_RRIIRR r0 r1 p2 p3 r4 r5) [(.int p2)])) _
    refine XS.iconst X10.here hx rfl (hb hby d3_28) ?_
    show Steps p.tables e below (T10.setTop (mkF m 29 (LS_RRIIRR r0 r1 p2 p3 r4 r5) [(.int (1 : Int32)), (.int p2)])) _
    refine XS.icmpYes X10.here hx rfl (pc0 := 29) (pc' := 46) rfl (hb hby d3_29) rfl (flt hcap).2.1 (by decide) (by decide) ?_
    show Steps p.tables e below (T10.setTop (mkF m 46 (LS_RRIIRR r0 r1 p2 p3 r4 r5) [])) _
    refine XS.iloadN X10.here hx rfl (hb hby d3_46) rfl ?_
    show Steps p.tables e below (T10.setTop (mkF m 47 (LS_RRIIRR r0 r1 p2 p3 r4 r5) [(.int p3)])) _
    refine XS.iconst X10.here hx rfl (hb hby d3_47) ?_
    show Steps p.tables e below (T10.setTop (mkF m 48 (LS_RRIIRR r0 r1 p2 p3 r4 r5) [(.int (1 : Int32)), (.int p3)])) _
    refine XS.icmpYes X10.here hx rfl (pc0 := 48) (pc' := 65) rfl (hb hby d3_48) rfl (flt hsec).2.1 (by decide) (by decide) ?_
    show Steps p.tables e below (T10.setTop (mkF m 65 (LS_RRIIRR r0 r1 p2 p3 r4 r5) [])) _
    refine XS.aloadN X10.here hx rfl (hb hby d3_65) rfl rfl ?_
    show Steps p.tables e below (T10.setTop (mkF m 66 (LS_RRIIRR r0 r1 p2 p3 r4 r5) [(.ref r0)])) _
    refine XS.aloadN X10.here hx rfl (hb hby d3_66) rfl rfl ?_
    exact k
  have E0_v11 := E0.ext E2
  have E0_v12 := E0_v11.ext E5
  have E0_v13 := E0_v12.ext E8
  have F0_v14 := F0.ext E2
  have F0_v15 := F0_v14.ext E5
  have F0_v16 := F0_v15.ext E8
  obtain ⟨T17, h17, X17, e17, W17, st17⟩ := putF X10 hx hZ8 ho8 (host := "") (Or.inl (hw _ (List.mem_of_getElem? (i := 51) rfl))) Via.refl e10 F0_v16 E0_v13 (Or.inr ⟨(hw _ (List.mem_of_getElem? (i := 52) rfl)), rfl, hnm⟩) (hw _ (List.mem_of_getElem? (i := 12) rfl)) (ty := (.object "java/lang/String")) (by decide) rfl rfl (g := (mkF m 67 (LS_RRIIRR r0 r1 p2 p3 r4 r5) [(.ref r1), (.ref r0)])) rfl rfl (hb hby d3_67)
  have N17 := Fr.snoc X17 N10 g_r0
  have Fw17 := F0_v16.same W17
  refine own_go (B := T17.setTop (mkF m 70 (LS_RRIIRR r0 r1 p2 p3 r4 r5) [])) (fun t k => st17 _ k) ?_
  refine own_go (B := T17.setTop (mkF m 72 (LS_RRIIRR r0 r1 p2 p3 r4 r5) [(.int p2), (.ref r0)])) (fun t k => ?_) ?_
  · show Steps p.tables e below (T17.setTop (mkF m 70 (LS_RRIIRR r0 r1 p2 p3 r4 r5) [])) _
    refine XS.aloadN X17.here hx rfl (hb hby d3_70) rfl rfl ?_
    show Steps p.tables e below (T17.setTop (mkF m 71 (LS_RRIIRR r0 r1 p2 p3 r4 r5) [(.ref r0)])) _
    refine XS.iloadN X17.here hx rfl (hb hby d3_71) rfl ?_
    exact k
  have E0_v18 := E0_v13.wr W17
  have F1_v19 := F1.ext E2
  have F1_v20 := F1_v19.ext E5
  have F1_v21 := F1_v20.ext E8
  have F1_v22 := F1_v21.other W17 (Or.inr (slot_ne (Or.inr (hw _ (List.mem_of_getElem? (i := 54) rfl))) (Or.inr (hw _ (List.mem_of_getElem? (i := 52) rfl))) (by decide) (t := .int) (t' := (.object "java/lang/String")) (by decide) (by decide)))
  obtain ⟨T23, h23, X23, e23, W23, st23⟩ := putF X17 hx hZ8 ho8 (host := "") (Or.inl (hw _ (List.mem_of_getElem? (i := 53) rfl))) Via.refl e17 F1_v22 E0_v18 (Or.inr ⟨(hw _ (List.mem_of_getElem? (i := 54) rfl)), rfl, hnm⟩) (hw _ (List.mem_of_getElem? (i := 12) rfl)) (ty := .int) (by decide) rfl rfl (g := (mkF m 72 (LS_RRIIRR r0 r1 p2 p3 r4 r5) [(.int p2), (.ref r0)])) rfl rfl (hb hby d3_72)
  have N23 := Fr.snoc X23 N17 g_r0
  have Fw23 := F1_v22.same W23
  refine own_go (B := T23.setTop (mkF m 75 (LS_RRIIRR r0 r1 p2 p3 r4 r5) [])) (fun t k => st23 _ k) ?_
  refine own_go (B := T23.setTop (mkF m 77 (LS_RRIIRR r0 r1 p2 p3 r4 r5) [(.int p3), (.ref r0)])) (fun t k => ?_) ?_
  · show Steps p.tables e below (T23.setTop (mkF m 75 (LS_RRIIRR r0 r1 p2 p3 r4 r5) [])) _
    refine XS.aloadN X23.here hx rfl (hb hby d3_75) rfl rfl ?_
    show Steps p.tables e below (T23.setTop (mkF m 76 (LS_RRIIRR r0 r1 p2 p3 r4 r5) [(.ref r0)])) _
    refine XS.iloadN X23.here hx rfl (hb hby d3_76) rfl ?_
    exact k
  have E0_v24 := E0_v18.wr W23
  have F2_v25 := F2.ext E2
  have F2_v26 := F2_v25.ext E5
  have F2_v27 := F2_v26.ext E8
  have F2_v28 := F2_v27.other W17 (Or.inr (slot_ne (Or.inr (hw _ (List.mem_of_getElem? (i := 56) rfl))) (Or.inr (hw _ (List.mem_of_getElem? (i := 52) rfl))) (by decide) (t := .int) (t' := (.object "java/lang/String")) (by decide) (by decide)))
  have F2_v29 := F2_v28.other W23 (Or.inr (slot_ne (Or.inr (hw _ (List.mem_of_getElem? (i := 56) rfl))) (Or.inr (hw _ (List.mem_of_getElem? (i := 54) rfl))) (by decide) (t := .int) (t' := .int) (by decide) (by decide)))
  obtain ⟨T30, h30, X30, e30, W30, st30⟩ := putF X23 hx hZ8 ho8 (host := "") (Or.inl (hw _ (List.mem_of_getElem? (i := 55) rfl))) Via.refl e23 F2_v29 E0_v24 (Or.inr ⟨(hw _ (List.mem_of_getElem? (i := 56) rfl)), rfl, hnm⟩) (hw _ (List.mem_of_getElem? (i := 12) rfl)) (ty := .int) (by decide) rfl rfl (g := (mkF m 77 (LS_RRIIRR r0 r1 p2 p3 r4 r5) [(.int p3), (.ref r0)])) rfl rfl (hb hby d3_77)
  have N30 := Fr.snoc X30 N23 g_r0
  have Fw30 := F2_v29.same W30
  refine own_go (B := T30.setTop (mkF m 80 (LS_RRIIRR r0 r1 p2 p3 r4 r5) [])) (fun t k => st30 _ k) ?_
  refine own_go (B := T30.setTop (mkF m 83 (LS_RRIIRR r0 r1 p2 p3 r4 r5) [(.ref r4), (.ref r0)])) (fun t k => ?_) ?_
  · show Steps p.tables e below (T30.setTop (mkF m 80 (LS_RRIIRR r0 r1 p2 p3 r4 r5) [])) _
    refine XS.aloadN X30.here hx rfl (hb hby d3_80) rfl rfl ?_
    show Steps p.tables e below (T30.setTop (mkF m 81 (LS_RRIIRR r0 r1 p2 p3 r4 r5) [(.ref r0)])) _
    refine XS.aload X30.here hx rfl (hb hby d3_81) rfl rfl ?_
    exact k
  have E0_v31 := E0_v24.wr W30
  have F3_v32 := F3.ext E2
  have F3_v33 := F3_v32.ext E5
  have F3_v34 := F3_v33.ext E8
  have F3_v35 := F3_v34.other W17 (Or.inr (slot_ne (Or.inr (hw _ (List.mem_of_getElem? (i := 58) rfl))) (Or.inr (hw _ (List.mem_of_getElem? (i := 52) rfl))) (by decide) (t := (.object "com/example/blend2/blend2/Algorithm")) (t' := (.object "java/lang/String")) (by decide) (by decide)))
  have F3_v36 := F3_v35.other W23 (Or.inr (slot_ne (Or.inr (hw _ (List.mem_of_getElem? (i := 58) rfl))) (Or.inr (hw _ (List.mem_of_getElem? (i := 54) rfl))) (by decide) (t := (.object "com/example/blend2/blend2/Algorithm")) (t' := .int) (by decide) (by decide)))
  have F3_v37 := F3_v36.other W30 (Or.inr (slot_ne (Or.inr (hw _ (List.mem_of_getElem? (i := 58) rfl))) (Or.inr (hw _ (List.mem_of_getElem? (i := 56) rfl))) (by decide) (t := (.object "com/example/blend2/blend2/Algorithm")) (t' := .int) (by decide) (by decide)))
  obtain ⟨T38, h38, X38, e38, W38, st38⟩ := putF X30 hx hZ8 ho8 (host := "") (Or.inl (hw _ (List.mem_of_getElem? (i := 57) rfl))) Via.refl e30 F3_v37 E0_v31 (Or.inr ⟨(hw _ (List.mem_of_getElem? (i := 58) rfl)), rfl, hnm⟩) (hw _ (List.mem_of_getElem? (i := 12) rfl)) (ty := (.object "com/example/blend2/blend2/Algorithm")) (by decide) rfl rfl (g := (mkF m 83 (LS_RRIIRR r0 r1 p2 p3 r4 r5) [(.ref r4), (.ref r0)])) rfl rfl (hb hby d3_83)
  have N38 := Fr.snoc X38 N30 g_r0
  have Fw38 := F3_v37.same W38
  refine own_go (B := T38.setTop (mkF m 86 (LS_RRIIRR r0 r1 p2 p3 r4 r5) [])) (fun t k => st38 _ k) ?_
  refine own_go (B := T38.setTop (mkF m 89 (LS_RRIIRR r0 r1 p2 p3 r4 r5) [(.ref r5), (.ref r0)])) (fun t k => ?_) ?_
  · show Steps p.tables e below (T38.setTop (mkF m 86 (LS_RRIIRR r0 r1 p2 p3 r4 r5) [])) _
    refine XS.aloadN X38.here hx rfl (hb hby d3_86) rfl rfl ?_
    show Steps p.tables e below (T38.setTop (mkF m 87 (LS_RRIIRR r0 r1 p2 p3 r4 r5) [(.ref r0)])) _
    refine XS.aload X38.here hx rfl (hb hby d3_87) rfl rfl ?_
    exact k
  have E0_v39 := E0_v31.wr W38
  have F4_v40 := F4.ext E2
  have F4_v41 := F4_v40.ext E5
  have F4_v42 := F4_v41.ext E8
  have F4_v43 := F4_v42.other W17 (Or.inr (slot_ne (Or.inr (hw _ (List.mem_of_getElem? (i := 60) rfl))) (Or.inr (hw _ (List.mem_of_getElem? (i := 52) rfl))) (by decide) (t := (.object "com/example/blend2/blend2/StoreFailurePolicy")) (t' := (.object "java/lang/String")) (by decide) (by decide)))
  have F4_v44 := F4_v43.other W23 (Or.inr (slot_ne (Or.inr (hw _ (List.mem_of_getElem? (i := 60) rfl))) (Or.inr (hw _ (List.mem_of_getElem? (i := 54) rfl))) (by decide) (t := (.object "com/example/blend2/blend2/StoreFailurePolicy")) (t' := .int) (by decide) (by decide)))
  have F4_v45 := F4_v44.other W30 (Or.inr (slot_ne (Or.inr (hw _ (List.mem_of_getElem? (i := 60) rfl))) (Or.inr (hw _ (List.mem_of_getElem? (i := 56) rfl))) (by decide) (t := (.object "com/example/blend2/blend2/StoreFailurePolicy")) (t' := .int) (by decide) (by decide)))
  have F4_v46 := F4_v45.other W38 (Or.inr (slot_ne (Or.inr (hw _ (List.mem_of_getElem? (i := 60) rfl))) (Or.inr (hw _ (List.mem_of_getElem? (i := 58) rfl))) (by decide) (t := (.object "com/example/blend2/blend2/StoreFailurePolicy")) (t' := (.object "com/example/blend2/blend2/Algorithm")) (by decide) (by decide)))
  obtain ⟨T47, h47, X47, e47, W47, st47⟩ := putF X38 hx hZ8 ho8 (host := "") (Or.inl (hw _ (List.mem_of_getElem? (i := 59) rfl))) Via.refl e38 F4_v46 E0_v39 (Or.inr ⟨(hw _ (List.mem_of_getElem? (i := 60) rfl)), rfl, hnm⟩) (hw _ (List.mem_of_getElem? (i := 12) rfl)) (ty := (.object "com/example/blend2/blend2/StoreFailurePolicy")) (by decide) rfl rfl (g := (mkF m 89 (LS_RRIIRR r0 r1 p2 p3 r4 r5) [(.ref r5), (.ref r0)])) rfl rfl (hb hby d3_89)
  have N47 := Fr.snoc X47 N38 g_r0
  have Fw47 := F4_v46.same W47
  refine own_go (B := T47.setTop (mkF m 92 (LS_RRIIRR r0 r1 p2 p3 r4 r5) [])) (fun t k => st47 _ k) ?_
  have hk8_v48 := Nat.le_trans hk8 (Nat.le_of_eq W17.size.symm)
  have hk8_v49 := Nat.le_trans hk8_v48 (Nat.le_of_eq W23.size.symm)
  have hk8_v50 := Nat.le_trans hk8_v49 (Nat.le_of_eq W30.size.symm)
  have hk8_v51 := Nat.le_trans hk8_v50 (Nat.le_of_eq W38.size.symm)
  have hk8_v52 := Nat.le_trans hk8_v51 (Nat.le_of_eq W47.size.symm)
  obtain ⟨fs, hr, hrun, hended, hRW⟩ := Stand.leaveW (s := s) (vm₁ := T8.vm) X47 hS8 (by rw [e47]; exact hk8_v52) (v := none) (fun _ => rfl)
  refine ⟨_, _, ?_, hrun, hended, _, _, rfl, ?_, hRW.1, hRW.2.1, hRW.2.2.1, hRW.2.2.2.mono (by decide) (by decide)⟩
  · show Steps p.tables e below (T47.setTop (mkF m 92 (LS_RRIIRR r0 r1 p2 p3 r4 r5) [])) _
    exact X47.returnOut hx Bd.returns (hb hby d3_92) hr
  · show Qru5 Z r0 r1 p2 p3 r4 r5 h0 n0 _ T47.heap _
    rw [e47]
    have K0_v53 := K0.ext E2
    have K0_v54 := K0_v53.ext E5
    have K0_v55 := K0_v54.ext E8
    have K0_v56 := K0_v55.wr W17 (Or.inl (List.mem_of_getElem? (i := 0) rfl))
    have K0_v57 := K0_v56.wr W23 (Or.inl (List.mem_of_getElem? (i := 0) rfl))
    have K0_v58 := K0_v57.wr W30 (Or.inl (List.mem_of_getElem? (i := 0) rfl))
    have K0_v59 := K0_v58.wr W38 (Or.inl (List.mem_of_getElem? (i := 0) rfl))
    have K0_v60 := K0_v59.wr W47 (Or.inl (List.mem_of_getElem? (i := 0) rfl))
    have Fw23_v61 := Fw23.other W30 (Or.inr (slot_ne (Or.inr (hw _ (List.mem_of_getElem? (i := 54) rfl))) (Or.inr (hw _ (List.mem_of_getElem? (i := 56) rfl))) (by decide) (t := .int) (t' := .int) (by decide) (by decide)))
    have Fw23_v62 := Fw23_v61.other W38 (Or.inr (slot_ne (Or.inr (hw _ (List.mem_of_getElem? (i := 54) rfl))) (Or.inr (hw _ (List.mem_of_getElem? (i := 58) rfl))) (by decide) (t := .int) (t' := (.object "com/example/blend2/blend2/Algorithm")) (by decide) (by decide)))
    have Fw23_v63 := Fw23_v62.other W47 (Or.inr (slot_ne (Or.inr (hw _ (List.mem_of_getElem? (i := 54) rfl))) (Or.inr (hw _ (List.mem_of_getElem? (i := 60) rfl))) (by decide) (t := .int) (t' := (.object "com/example/blend2/blend2/StoreFailurePolicy")) (by decide) (by decide)))
    have Fw30_v64 := Fw30.other W38 (Or.inr (slot_ne (Or.inr (hw _ (List.mem_of_getElem? (i := 56) rfl))) (Or.inr (hw _ (List.mem_of_getElem? (i := 58) rfl))) (by decide) (t := .int) (t' := (.object "com/example/blend2/blend2/Algorithm")) (by decide) (by decide)))
    have Fw30_v65 := Fw30_v64.other W47 (Or.inr (slot_ne (Or.inr (hw _ (List.mem_of_getElem? (i := 56) rfl))) (Or.inr (hw _ (List.mem_of_getElem? (i := 60) rfl))) (by decide) (t := .int) (t' := (.object "com/example/blend2/blend2/StoreFailurePolicy")) (by decide) (by decide)))
    exact ⟨rfl, N47, K0_v60, Fw23_v63, Fw30_v65⟩
theorem ef_ru3 (m : MethodId) (r0 : Addr) (r1 : Addr) (p2 : Int32) (p3 : Int32) : entryFrame m #[(.ref r0), (.ref r1), (.int p2), (.int p3)] 4 = mkF m 0 #[.val (.ref r0), .val (.ref r1), .val (.int p2), .val (.int p3)] [] := by first | (simp [entryFrame, mkF, argsToLocals, Value.category]; done) | rfl
theorem pn_2 : plainName "com/example/blend2/blend2/Rule" = true := by first | (simp [plainName, overriddenIn]; done) | decide +kernel
abbrev LS_RRII (a0 : Addr) (a1 : Addr) (a2 : Int32) (a3 : Int32) : Array Slot := #[.val (.ref a0), .val (.ref a1), .val (.int a2), .val (.int a3)]
theorem d2_0 : decode prog_11_method_2_code 0 = .ok (.aload_n 0, 1) := by decide +kernel
theorem d2_1 : decode prog_11_method_2_code 1 = .ok (.aload_n 1, 1) := by decide +kernel
theorem d2_2 : decode prog_11_method_2_code 2 = .ok (.iload_n 2, 1) := by decide +kernel
theorem d2_3 : decode prog_11_method_2_code 3 = .ok (.iload_n 3, 1) := by decide +kernel
theorem d2_4 : decode prog_11_method_2_code 4 = .ok (.getstatic 47, 3) := by decide +kernel
theorem d2_7 : decode prog_11_method_2_code 7 = .ok (.getstatic 50, 3) := by decide +kernel
theorem d2_10 : decode prog_11_method_2_code 10 = .ok (.invokespecial 53, 3) := by decide +kernel
theorem pd__Ljava_lang_String_IILcom_example_blend2_blend2_Algorithm_Lcom_example_blend2_blend2_StoreFailurePolicy__V : parseMethodDescriptor "(Ljava/lang/String;IILcom/example/blend2/blend2/Algorithm;Lcom/example/blend2/blend2/StoreFailurePolicy;)V" = some ⟨[(.object "java/lang/String"), .int, .int, (.object "com/example/blend2/blend2/Algorithm"), (.object "com/example/blend2/blend2/StoreFailurePolicy")], none⟩ := by decide +kernel
theorem d2_13 : decode prog_11_method_2_code 13 = .ok (.return_, 1) := by decide +kernel
def Qru3 (Z : State) (r0 : Addr) (r1 : Addr) (p2 : Int32) (p3 : Int32) (wA wS : Addr) (h0 : Heap) (n0 : Nat) (v : Option Value) (h : Heap) (L : List Loc) : Prop := v = none ∧ Fr n0 L ∧ Keep h0 h [r0] ∧ Fld Z h r0 "com/example/blend2/blend2/Rule" "capacity" "I" (.int p2) ∧ Fld Z h r0 "com/example/blend2/blend2/Rule" "timeWindowSec" "I" (.int p3)
set_option maxRecDepth 65536 in
set_option maxHeartbeats 40000000 in
theorem rmru3 (l : Launch) (Z : State) (a0 : Array Value) (hw : ∀ d ∈ tables_1, d.before a0 Z = true) (ws : List Jvm.Cond) (r0 : Addr) (r1 : Addr) (p2 : Int32) (p3 : Int32) (wA wS : Addr) (h0 : Heap) (n0 : Nat) (Z0 : n0 ≤ h0.size) (S_DEFAULT_ALGORITHM : Sta Z h0 "com/example/blend2/blend2/Rule" "DEFAULT_ALGORITHM" "Lcom/example/blend2/blend2/Algorithm;" (.ref wA)) (S_DEFAULT_STORE_FAILURE_POLICY : Sta Z h0 "com/example/blend2/blend2/Rule" "DEFAULT_STORE_FAILURE_POLICY" "Lcom/example/blend2/blend2/StoreFailurePolicy;" (.ref wS)) (E0 : Exa Z h0 r0 "com/example/blend2/blend2/Rule") (F0 : Fld Z h0 r0 "com/example/blend2/blend2/Rule" "name" "Ljava/lang/String;" .null) (F1 : Fld Z h0 r0 "com/example/blend2/blend2/Rule" "capacity" "I" (.int (0 : Int32))) (F2 : Fld Z h0 r0 "com/example/blend2/blend2/Rule" "timeWindowSec" "I" (.int (0 : Int32))) (F3 : Fld Z h0 r0 "com/example/blend2/blend2/Rule" "algorithm" "Lcom/example/blend2/blend2/Algorithm;" .null) (F4 : Fld Z h0 r0 "com/example/blend2/blend2/Rule" "onStoreFailure" "Lcom/example/blend2/blend2/StoreFailurePolicy;" .null) (hcap : ¬ (p2 < (1 : Int32))) (hsec : ¬ (p3 < (1 : Int32))) (g_r0 : n0 ≤ r0) :
    MetFree l (⟨"com/example/blend2/blend2/Rule", "<init>", "(Ljava/lang/String;II)V"⟩ : MethodName) (head1 (Jvm.Cond.code (⟨"com/example/blend2/blend2/Rule", "<init>", "(Ljava/lang/String;II)V"⟩ : MethodName) prog_11_method_2_code 4 none :: ws) ({ frames := 3, cells := 6, slots := 120, locals := 70 } : Room)) (fun a U => a = #[(.ref r0), (.ref r1), (.int p2), (.int p3)] ∧ Z.Warmed39 U.vm ∧ U.heap = h0) (fun _ _ _ _ _ => True) (fun _ U o U' => ∃ v L, o = .returned v ∧ Qru3 Z r0 r1 p2 p3 wA wS h0 n0 v U'.heap L ∧ ReturnedEndW U o U' L ({ frames := 3, cells := 6, slots := 120, locals := 70 } : Room).cells ({ frames := 3, cells := 6, slots := 120, locals := 70 } : Room).slots) := by
  refine MetFree.of_bodySF (plainFor_of_name pn_2) hisR ?_
  intro p e s m args below meth c s₁ Bd hml0 hP hK
  obtain ⟨rfl, hZ, hh⟩ := hP
  have hx := Bd.exec
  have hby := Bd.bytes
  have hml : c.maxLocals = 4 := hml0
  have hown : s.vm.findClass "com/example/blend2/blend2/Rule" = some m.cls := findClass_of_methodNamed Bd.named
  have hnm := (name_of_methodNamed Bd.named Bd.method).1
  have X0 : Stand p l e ({ frames := 3, cells := 6, slots := 120, locals := 70 } : Room) s m #[(.ref r0), (.ref r1), (.int p2), (.int p3)] below meth c s₁ [] 0 0 := Stand.of_body Bd
  have e0 : s₁.heap = h0 := by rw [← hh, Bd.state]; rfl
  have N0 := Fr.nil n0
  refine own_go (B := s₁.setTop (mkF m 0 (LS_RRII r0 r1 p2 p3) [])) (fun t k => castTop (ef_ru3 m r0 r1 p2 p3) k) ?_
  have hS0 : s.Since s.vm 0 := (State.WarmedH.refl s).since 0
  have hk0 : 0 ≤ Array.size h0 := Nat.zero_le _
  have K0 : Keep h0 h0 [r0] := Keep.refl _ _
  refine own_go (B := s₁.setTop (mkF m 4 (LS_RRII r0 r1 p2 p3) [(.int p3), (.int p2), (.ref r1), (.ref r0)])) (fun t k => ?_) ?_
  · show Steps p.tables e below (s₁.setTop (mkF m 0 (LS_RRII r0 r1 p2 p3) [])) _
    refine XS.aloadN X0.here hx rfl (hb hby d2_0) rfl rfl ?_
    show Steps p.tables e below (s₁.setTop (mkF m 1 (LS_RRII r0 r1 p2 p3) [(.ref r0)])) _
    refine XS.aloadN X0.here hx rfl (hb hby d2_1) rfl rfl ?_
    show Steps p.tables e below (s₁.setTop (mkF m 2 (LS_RRII r0 r1 p2 p3) [(.ref r1), (.ref r0)])) _
    refine XS.iloadN X0.here hx rfl (hb hby d2_2) rfl ?_
    show Steps p.tables e below (s₁.setTop (mkF m 3 (LS_RRII r0 r1 p2 p3) [(.int p2), (.ref r1), (.ref r0)])) _
    refine XS.iloadN X0.here hx rfl (hb hby d2_3) rfl ?_
    exact k
  obtain ⟨T1, X1, e1, st1⟩ := getS2 X0 hx hZ hown (host := "") (Or.inl (hw _ (List.mem_of_getElem? (i := 25) rfl))) Via.refl e0 S_DEFAULT_ALGORITHM (g := (mkF m 4 (LS_RRII r0 r1 p2 p3) [(.int p3), (.int p2), (.ref r1), (.ref r0)])) rfl (hb hby d2_4)
  refine own_go (B := T1.setTop (mkF m 7 (LS_RRII r0 r1 p2 p3) [(.ref wA), (.int p3), (.int p2), (.ref r1), (.ref r0)])) (fun t k => st1 _ k) ?_
  obtain ⟨T2, X2, e2, st2⟩ := getS2 X1 hx hZ hown (host := "") (Or.inl (hw _ (List.mem_of_getElem? (i := 29) rfl))) Via.refl e1 S_DEFAULT_STORE_FAILURE_POLICY (g := (mkF m 7 (LS_RRII r0 r1 p2 p3) [(.ref wA), (.int p3), (.int p2), (.ref r1), (.ref r0)])) rfl (hb hby d2_7)
  refine own_go (B := T2.setTop (mkF m 10 (LS_RRII r0 r1 p2 p3) [(.ref wS), (.ref wA), (.int p3), (.int p2), (.ref r1), (.ref r0)])) (fun t k => st2 _ k) ?_
  obtain ⟨_, _, ⟨T3, L3, k3, n3⟩, -, X3, hs3, hg3, ⟨Lc3, hQ3, l3, y3, z3⟩, st3⟩ := X2.specialBackS hx (y := (⟨"com/example/blend2/blend2/Rule", "<init>", "(Ljava/lang/String;IILcom/example/blend2/blend2/Algorithm;Lcom/example/blend2/blend2/StoreFailurePolicy;)V"⟩ : MethodName)) rfl hown (mvT hZ (hw _ (List.mem_of_getElem? (i := 33) rfl))) (mvT hZ (hw _ (List.mem_of_getElem? (i := 34) rfl))) (mvT hZ (hw _ (List.mem_of_getElem? (i := 35) rfl))) (by decide) (backOfS (W := 0) (rmru5 l Z a0 hw [] r0 r1 p2 p3 wA wS h0 n0 Z0 E0 F0 F1 F2 F3 F4 hcap hsec g_r0) hZ (hw _ (List.mem_of_getElem? (i := 35) rfl)) (hw _ (List.mem_of_getElem? (i := 13) rfl)) (by decide) (by decide)) (g := (mkF m 10 (LS_RRII r0 r1 p2 p3) [(.ref wS), (.ref wA), (.int p3), (.int p2), (.ref r1), (.ref r0)])) rfl (by rw [hml]; rfl) (Steps.refl _) (a := r0) (argsL := [(.ref r1), (.int p2), (.int p3), (.ref wA), (.ref wS)]) (rest := []) (lenOf pd__Ljava_lang_String_IILcom_example_blend2_blend2_Algorithm_Lcom_example_blend2_blend2_StoreFailurePolicy__V rfl) rfl (by show 2 * 0 + _ ≤ _; exact Nat.le_of_eq rfl) (hb hby d2_10) (fun _ _ => ⟨rfl, e2, (by decide : 0 + 6 ≤ _), (by decide : 0 + 120 ≤ _)⟩)
  dsimp only [Pt.U, Pt.locs, Pt.cells, Pt.slots] at X3 l3 y3 z3 st3 hQ3 hs3 hg3
  subst l3 y3 z3
  have hS3 : s.Since T3.vm T3.heap.size := foldS (s := s) (vm0 := s.vm) (T := T2) (U := T3) hS0 (by rw [e2]; exact hk0) hs3 hg3
  have hZ3 : Z.Warmed39 (s.setVm T3.vm).vm := State.Warmed39.trans (t := s.setVm s.vm) hZ hs3.1
  have ho3 : (s.setVm T3.vm).vm.findClass "com/example/blend2/blend2/Rule" = some m.cls := by rw [show (s.setVm T3.vm).vm = T3.vm from rfl, hs3.1.alike.findClass]; exact hown
  obtain ⟨rfl, N3q, K3, Fc3, Ft3⟩ := hQ3
  have N3 := Fr.app N0 N3q
  have hk3 : T3.heap.size ≤ T3.heap.size := Nat.le_refl _
  refine own_go (B := T3.setTop (mkF m 13 (LS_RRII r0 r1 p2 p3) [])) (fun t k => st3.trans k) ?_
  obtain ⟨fs, hr, hrun, hended, hRW⟩ := Stand.leaveW (s := s) (vm₁ := T3.vm) X3 hS3 hk3 (v := none) (fun _ => rfl)
  refine ⟨_, _, ?_, hrun, hended, _, _, rfl, ?_, hRW.1, hRW.2.1, hRW.2.2.1, hRW.2.2.2.mono (by decide) (by decide)⟩
  · show Steps p.tables e below (T3.setTop (mkF m 13 (LS_RRII r0 r1 p2 p3) [])) _
    exact X3.returnOut hx Bd.returns (hb hby d2_13) hr
  · show Qru3 Z r0 r1 p2 p3 wA wS h0 n0 _ T3.heap _
    have K0_v4 := K0.trans K3 (allS (Or.inl (List.mem_of_getElem? (i := 0) rfl)) all0)
    exact ⟨rfl, N3, K0_v4, Fc3, Ft3⟩
theorem own_fdA {x y : Int64} (h : (x ^^^ y) < (0 : Int64)) (h2 : ((x / y) * y) = x) : own_fd x y = (x / y) := by rw [own_fd, if_pos h, if_pos h2]
theorem own_fdB {x y : Int64} (h : (x ^^^ y) < (0 : Int64)) (h2 : ¬ (((x / y) * y) = x)) : own_fd x y = ((x / y) - (1 : Int64)) := by rw [own_fd, if_pos h, if_neg h2]
theorem own_fdC {x y : Int64} (h : ¬ ((x ^^^ y) < (0 : Int64))) : own_fd x y = (x / y) := by rw [own_fd, if_neg h]
theorem own_weA {t w : Int64} (h : (t - (t / w) * w) < (0 : Int64)) : own_we t w = ((t - ((t - (t / w) * w) + w)) + w) := by rw [own_we, if_pos h]
theorem own_weB {t w : Int64} (h : ¬ ((t - (t / w) * w) < (0 : Int64))) : own_we t w = ((t - (t - (t / w) * w)) + w) := by rw [own_we, if_neg h]
theorem own_ne0 {w : Int64} (h : 1000 ≤ w.toInt ∧ w.toInt ≤ 2147483647000) : ¬ (w = (0 : Int64)) := fun q => by
  rw [q] at h
  exact absurd h.1 (by decide)
theorem ef_fdv (m : MethodId) (q0 : Int64) (q1 : Int64) : entryFrame m #[(.long q0), (.long q1)] 6 = mkF m 0 #[.val (.long q0), .second, .val (.long q1), .second, .unset, .unset] [] := by first | (simp [entryFrame, mkF, argsToLocals, Value.category]; done) | rfl
theorem pn_10 : plainFor (⟨"java/lang/Math", "floorDiv", "(JJ)J"⟩ : MethodName) = true := by decide +kernel
abbrev LS_JsJsuu (a0 : Int64) (a1 : Int64) : Array Slot := #[.val (.long a0), .second, .val (.long a1), .second, .unset, .unset]
theorem d10_0 : decode jdk_29_method_49_code 0 = .ok (.lload_n 0, 1) := by decide +kernel
theorem d10_1 : decode jdk_29_method_49_code 1 = .ok (.lload_n 2, 1) := by decide +kernel
theorem d10_2 : decode jdk_29_method_49_code 2 = .ok (.ldiv, 1) := by decide +kernel
theorem d10_3 : decode jdk_29_method_49_code 3 = .ok (.lstore 4, 2) := by decide +kernel
abbrev LS_JsJsJs (a0 : Int64) (a1 : Int64) (a2 : Int64) : Array Slot := #[.val (.long a0), .second, .val (.long a1), .second, .val (.long a2), .second]
theorem d10_5 : decode jdk_29_method_49_code 5 = .ok (.lload_n 0, 1) := by decide +kernel
theorem d10_6 : decode jdk_29_method_49_code 6 = .ok (.lload_n 2, 1) := by decide +kernel
theorem d10_7 : decode jdk_29_method_49_code 7 = .ok (.lxor, 1) := by decide +kernel
theorem d10_8 : decode jdk_29_method_49_code 8 = .ok (.lconst 0, 1) := by decide +kernel
theorem d10_9 : decode jdk_29_method_49_code 9 = .ok (.lcmp, 1) := by decide +kernel
theorem d10_10 : decode jdk_29_method_49_code 10 = .ok (.ifCond .ge 17, 3) := by decide +kernel
theorem d10_13 : decode jdk_29_method_49_code 13 = .ok (.lload 4, 2) := by decide +kernel
theorem d10_15 : decode jdk_29_method_49_code 15 = .ok (.lload_n 2, 1) := by decide +kernel
theorem d10_16 : decode jdk_29_method_49_code 16 = .ok (.lmul, 1) := by decide +kernel
theorem d10_17 : decode jdk_29_method_49_code 17 = .ok (.lload_n 0, 1) := by decide +kernel
theorem d10_18 : decode jdk_29_method_49_code 18 = .ok (.lcmp, 1) := by decide +kernel
theorem d10_19 : decode jdk_29_method_49_code 19 = .ok (.ifCond .eq 8, 3) := by decide +kernel
theorem d10_27 : decode jdk_29_method_49_code 27 = .ok (.lload 4, 2) := by decide +kernel
theorem d10_29 : decode jdk_29_method_49_code 29 = .ok (.lreturn, 1) := by decide +kernel
theorem d10_22 : decode jdk_29_method_49_code 22 = .ok (.lload 4, 2) := by decide +kernel
theorem d10_24 : decode jdk_29_method_49_code 24 = .ok (.lconst 1, 1) := by decide +kernel
theorem d10_25 : decode jdk_29_method_49_code 25 = .ok (.lsub, 1) := by decide +kernel
theorem d10_26 : decode jdk_29_method_49_code 26 = .ok (.lreturn, 1) := by decide +kernel
def Qfdv (Z : State) (q0 : Int64) (q1 : Int64) (h0 : Heap) (n0 : Nat) (v : Option Value) (h : Heap) (L : List Loc) : Prop := v = some (.long (own_fd q0 q1)) ∧ Fr n0 L ∧ h = h0
set_option maxRecDepth 65536 in
set_option maxHeartbeats 40000000 in
theorem rmfdv (l : Launch) (Z : State) (a0 : Array Value) (hw : ∀ d ∈ tables_1, d.before a0 Z = true) (ws : List Jvm.Cond) (q0 : Int64) (q1 : Int64) (h0 : Heap) (n0 : Nat) (Z0 : n0 ≤ h0.size) (hnz : ¬ (q1 = (0 : Int64))) :
    MetFree l (⟨"java/lang/Math", "floorDiv", "(JJ)J"⟩ : MethodName) (head1 (Jvm.Cond.code (⟨"java/lang/Math", "floorDiv", "(JJ)J"⟩ : MethodName) jdk_29_method_49_code 6 (some .long) :: ws) ({ frames := 0, cells := 0, slots := 0, locals := 0 } : Room)) (fun a U => a = #[(.long q0), (.long q1)] ∧ Z.Warmed39 U.vm ∧ U.heap = h0) (fun _ _ _ _ _ => True) (fun _ U o U' => ∃ v L, o = .returned v ∧ Qfdv Z q0 q1 h0 n0 v U'.heap L ∧ FrameEnd U o U' L ({ frames := 0, cells := 0, slots := 0, locals := 0 } : Room).cells ({ frames := 0, cells := 0, slots := 0, locals := 0 } : Room).slots) := by
  refine MetFree.of_bodySF (Jvm.Free.JP.mathPlain rfl (by decide +kernel)) hisR ?_
  intro p e s m args below meth c s₁ Bd hml0 hP hK
  obtain ⟨rfl, hZ, hh⟩ := hP
  have hx := Bd.exec
  have hby := Bd.bytes
  have hml : c.maxLocals = 6 := hml0
  have hown : s.vm.findClass "java/lang/Math" = some m.cls := findClass_of_methodNamed Bd.named
  have hnm := (name_of_methodNamed Bd.named Bd.method).1
  have X0 : Stand p l e ({ frames := 0, cells := 0, slots := 0, locals := 0 } : Room) s m #[(.long q0), (.long q1)] below meth c s₁ [] 0 0 := Stand.of_body Bd
  have e0 : s₁.heap = h0 := by rw [← hh, Bd.state]; rfl
  have N0 := Fr.nil n0
  refine own_go (B := s₁.setTop (mkF m 0 (LS_JsJsuu q0 q1) [])) (fun t k => castTop (ef_fdv m q0 q1) k) ?_
  refine own_go (B := s₁.setTop (mkF m 10 (LS_JsJsJs q0 q1 (q0 / q1)) [(.int (lcmpW (q0 ^^^ q1) (0 : Int64)))])) (fun t k => ?_) ?_
  · show Steps p.tables e below (s₁.setTop (mkF m 0 (LS_JsJsuu q0 q1) [])) _
    refine XS.lloadN X0.here hx rfl (hb hby d10_0) rfl ?_
    show Steps p.tables e below (s₁.setTop (mkF m 1 (LS_JsJsuu q0 q1) [(.long q0)])) _
    refine XS.lloadN X0.here hx rfl (hb hby d10_1) rfl ?_
    show Steps p.tables e below (s₁.setTop (mkF m 2 (LS_JsJsuu q0 q1) [(.long q1), (.long q0)])) _
    refine XS.ldiv X0.here hx rfl (hb hby d10_2) rfl hnz ?_
    show Steps p.tables e below (s₁.setTop (mkF m 3 (LS_JsJsuu q0 q1) [(.long (q0 / q1))])) _
    refine XS.lstore X0.here hx rfl (hb hby d10_3) rfl (l' := (LS_JsJsJs q0 q1 (q0 / q1))) rfl ?_
    show Steps p.tables e below (s₁.setTop (mkF m 5 (LS_JsJsJs q0 q1 (q0 / q1)) [])) _
    refine XS.lloadN X0.here hx rfl (hb hby d10_5) rfl ?_
    show Steps p.tables e below (s₁.setTop (mkF m 6 (LS_JsJsJs q0 q1 (q0 / q1)) [(.long q0)])) _
    refine XS.lloadN X0.here hx rfl (hb hby d10_6) rfl ?_
    show Steps p.tables e below (s₁.setTop (mkF m 7 (LS_JsJsJs q0 q1 (q0 / q1)) [(.long q1), (.long q0)])) _
    refine XS.lxor X0.here hx rfl (hb hby d10_7) rfl ?_
    show Steps p.tables e below (s₁.setTop (mkF m 8 (LS_JsJsJs q0 q1 (q0 / q1)) [(.long (q0 ^^^ q1))])) _
    refine XS.lconst X0.here hx rfl (hb hby d10_8) ?_
    show Steps p.tables e below (s₁.setTop (mkF m 9 (LS_JsJsJs q0 q1 (q0 / q1)) [(.long (0 : Int64)), (.long (q0 ^^^ q1))])) _
    refine XS.lcmp X0.here hx rfl (hb hby d10_9) rfl ?_
    exact k
  by_cases hc10_1 : (q0 ^^^ q1) < (0 : Int64)
  · refine own_go (B := s₁.setTop (mkF m 19 (LS_JsJsJs q0 q1 (q0 / q1)) [(.int (lcmpW ((q0 / q1) * q1) q0))])) (fun t k => ?_) ?_
    · show Steps p.tables e below (s₁.setTop (mkF m 10 (LS_JsJsJs q0 q1 (q0 / q1)) [(.int (lcmpW (q0 ^^^ q1) (0 : Int64)))])) _
      refine XS.ifNo X0.here hx rfl (hb hby d10_10) rfl ((if0 _ _).trans (tlt ((lw_lt (q0 ^^^ q1) (0 : Int64)).mpr hc10_1)).2.1) ?_
      show Steps p.tables e below (s₁.setTop (mkF m 13 (LS_JsJsJs q0 q1 (q0 / q1)) [])) _
      refine XS.lload X0.here hx rfl (hb hby d10_13) rfl ?_
      show Steps p.tables e below (s₁.setTop (mkF m 15 (LS_JsJsJs q0 q1 (q0 / q1)) [(.long (q0 / q1))])) _
      refine XS.lloadN X0.here hx rfl (hb hby d10_15) rfl ?_
      show Steps p.tables e below (s₁.setTop (mkF m 16 (LS_JsJsJs q0 q1 (q0 / q1)) [(.long q1), (.long (q0 / q1))])) _
      refine XS.lmul X0.here hx rfl (hb hby d10_16) rfl ?_
      show Steps p.tables e below (s₁.setTop (mkF m 17 (LS_JsJsJs q0 q1 (q0 / q1)) [(.long ((q0 / q1) * q1))])) _
      refine XS.lloadN X0.here hx rfl (hb hby d10_17) rfl ?_
      show Steps p.tables e below (s₁.setTop (mkF m 18 (LS_JsJsJs q0 q1 (q0 / q1)) [(.long q0), (.long ((q0 / q1) * q1))])) _
      refine XS.lcmp X0.here hx rfl (hb hby d10_18) rfl ?_
      exact k
    by_cases hc19_2 : ((q0 / q1) * q1) = q0
    · refine own_go (B := s₁.setTop (mkF m 29 (LS_JsJsJs q0 q1 (q0 / q1)) [(.long (q0 / q1))])) (fun t k => ?_) ?_
      · show Steps p.tables e below (s₁.setTop (mkF m 19 (LS_JsJsJs q0 q1 (q0 / q1)) [(.int (lcmpW ((q0 / q1) * q1) q0))])) _
        refine XS.ifYes X0.here hx rfl (pc0 := 19) (pc' := 27) rfl (hb hby d10_19) rfl ((if0 _ _).trans (teq ((lw_eq ((q0 / q1) * q1) q0).mpr hc19_2)).1) (by decide) (by decide) ?_
        show Steps p.tables e below (s₁.setTop (mkF m 27 (LS_JsJsJs q0 q1 (q0 / q1)) [])) _
        refine XS.lload X0.here hx rfl (hb hby d10_27) rfl ?_
        exact k
      obtain ⟨fs, hr, hrun, hended, hW, hsame⟩ := X0.leave (v := some (.long (q0 / q1))) (fun h => by rw [Bd.returns] at h; cases h)
      refine ⟨_, _, ?_, hrun, hended, _, _, rfl, ?_, ⟨_, rfl⟩, hW, hsame.mono (by decide) (by decide)⟩
      · show Steps p.tables e below (s₁.setTop (mkF m 29 (LS_JsJsJs q0 q1 (q0 / q1)) [(.long (q0 / q1))])) _
        exact retOut X0 hx Bd.returns rfl (Or.inr (Or.inl ⟨rfl, rfl, _, rfl⟩)) (hb hby d10_29) hr
      · show Qfdv Z q0 q1 h0 n0 _ s₁.heap _
        rw [e0]
        exact ⟨by rw [own_fdA hc10_1 hc19_2], N0, rfl⟩
    · refine own_go (B := s₁.setTop (mkF m 26 (LS_JsJsJs q0 q1 (q0 / q1)) [(.long ((q0 / q1) - (1 : Int64)))])) (fun t k => ?_) ?_
      · show Steps p.tables e below (s₁.setTop (mkF m 19 (LS_JsJsJs q0 q1 (q0 / q1)) [(.int (lcmpW ((q0 / q1) * q1) q0))])) _
        refine XS.ifNo X0.here hx rfl (hb hby d10_19) rfl ((if0 _ _).trans (feq (fun q => hc19_2 ((lw_eq ((q0 / q1) * q1) q0).mp q))).1) ?_
        show Steps p.tables e below (s₁.setTop (mkF m 22 (LS_JsJsJs q0 q1 (q0 / q1)) [])) _
        refine XS.lload X0.here hx rfl (hb hby d10_22) rfl ?_
        show Steps p.tables e below (s₁.setTop (mkF m 24 (LS_JsJsJs q0 q1 (q0 / q1)) [(.long (q0 / q1))])) _
        refine XS.lconst X0.here hx rfl (hb hby d10_24) ?_
        show Steps p.tables e below (s₁.setTop (mkF m 25 (LS_JsJsJs q0 q1 (q0 / q1)) [(.long (1 : Int64)), (.long (q0 / q1))])) _
        refine XS.lsub X0.here hx rfl (hb hby d10_25) rfl ?_
        exact k
      obtain ⟨fs, hr, hrun, hended, hW, hsame⟩ := X0.leave (v := some (.long ((q0 / q1) - (1 : Int64)))) (fun h => by rw [Bd.returns] at h; cases h)
      refine ⟨_, _, ?_, hrun, hended, _, _, rfl, ?_, ⟨_, rfl⟩, hW, hsame.mono (by decide) (by decide)⟩
      · show Steps p.tables e below (s₁.setTop (mkF m 26 (LS_JsJsJs q0 q1 (q0 / q1)) [(.long ((q0 / q1) - (1 : Int64)))])) _
        exact retOut X0 hx Bd.returns rfl (Or.inr (Or.inl ⟨rfl, rfl, _, rfl⟩)) (hb hby d10_26) hr
      · show Qfdv Z q0 q1 h0 n0 _ s₁.heap _
        rw [e0]
        exact ⟨by rw [own_fdB hc10_1 hc19_2], N0, rfl⟩
  · refine own_go (B := s₁.setTop (mkF m 29 (LS_JsJsJs q0 q1 (q0 / q1)) [(.long (q0 / q1))])) (fun t k => ?_) ?_
    · show Steps p.tables e below (s₁.setTop (mkF m 10 (LS_JsJsJs q0 q1 (q0 / q1)) [(.int (lcmpW (q0 ^^^ q1) (0 : Int64)))])) _
      refine XS.ifYes X0.here hx rfl (pc0 := 10) (pc' := 27) rfl (hb hby d10_10) rfl ((if0 _ _).trans (flt (fun q => hc10_1 ((lw_lt (q0 ^^^ q1) (0 : Int64)).mp q))).2.1) (by decide) (by decide) ?_
      show Steps p.tables e below (s₁.setTop (mkF m 27 (LS_JsJsJs q0 q1 (q0 / q1)) [])) _
      refine XS.lload X0.here hx rfl (hb hby d10_27) rfl ?_
      exact k
    obtain ⟨fs, hr, hrun, hended, hW, hsame⟩ := X0.leave (v := some (.long (q0 / q1))) (fun h => by rw [Bd.returns] at h; cases h)
    refine ⟨_, _, ?_, hrun, hended, _, _, rfl, ?_, ⟨_, rfl⟩, hW, hsame.mono (by decide) (by decide)⟩
    · show Steps p.tables e below (s₁.setTop (mkF m 29 (LS_JsJsJs q0 q1 (q0 / q1)) [(.long (q0 / q1))])) _
      exact retOut X0 hx Bd.returns rfl (Or.inr (Or.inl ⟨rfl, rfl, _, rfl⟩)) (hb hby d10_29) hr
    · show Qfdv Z q0 q1 h0 n0 _ s₁.heap _
      rw [e0]
      exact ⟨by rw [own_fdC hc10_1], N0, rfl⟩
theorem ef_wen (m : MethodId) (q0 : Int64) (q1 : Int64) : entryFrame m #[(.long q0), (.long q1)] 6 = mkF m 0 #[.val (.long q0), .second, .val (.long q1), .second, .unset, .unset] [] := by first | (simp [entryFrame, mkF, argsToLocals, Value.category]; done) | rfl
theorem pn_19 : plainName "com/example/blend2/blend2/FixedWindowIsIdleAtPinLaw" = true := by first | (simp [plainName, overriddenIn]; done) | decide +kernel
theorem d19_0 : decode method_2_code 0 = .ok (.lload_n 0, 1) := by decide +kernel
theorem d19_1 : decode method_2_code 1 = .ok (.lload_n 2, 1) := by decide +kernel
theorem d19_2 : decode method_2_code 2 = .ok (.lrem, 1) := by decide +kernel
theorem d19_3 : decode method_2_code 3 = .ok (.lstore 4, 2) := by decide +kernel
theorem d19_5 : decode method_2_code 5 = .ok (.lload 4, 2) := by decide +kernel
theorem d19_7 : decode method_2_code 7 = .ok (.lconst 0, 1) := by decide +kernel
theorem d19_8 : decode method_2_code 8 = .ok (.lcmp, 1) := by decide +kernel
theorem d19_9 : decode method_2_code 9 = .ok (.ifCond .ge 9, 3) := by decide +kernel
theorem d19_12 : decode method_2_code 12 = .ok (.lload 4, 2) := by decide +kernel
theorem d19_14 : decode method_2_code 14 = .ok (.lload_n 2, 1) := by decide +kernel
theorem d19_15 : decode method_2_code 15 = .ok (.ladd, 1) := by decide +kernel
theorem d19_16 : decode method_2_code 16 = .ok (.lstore 4, 2) := by decide +kernel
theorem d19_18 : decode method_2_code 18 = .ok (.lload_n 0, 1) := by decide +kernel
theorem d19_19 : decode method_2_code 19 = .ok (.lload 4, 2) := by decide +kernel
theorem d19_21 : decode method_2_code 21 = .ok (.lsub, 1) := by decide +kernel
theorem d19_22 : decode method_2_code 22 = .ok (.lload_n 2, 1) := by decide +kernel
theorem d19_23 : decode method_2_code 23 = .ok (.ladd, 1) := by decide +kernel
theorem d19_24 : decode method_2_code 24 = .ok (.lreturn, 1) := by decide +kernel
def Qwen (Z : State) (q0 : Int64) (q1 : Int64) (h0 : Heap) (n0 : Nat) (v : Option Value) (h : Heap) (L : List Loc) : Prop := v = some (.long (own_we q0 q1)) ∧ Fr n0 L ∧ h = h0
set_option maxRecDepth 65536 in
set_option maxHeartbeats 40000000 in
theorem rmwen (l : Launch) (Z : State) (a0 : Array Value) (hw : ∀ d ∈ tables_1, d.before a0 Z = true) (ws : List Jvm.Cond) (q0 : Int64) (q1 : Int64) (h0 : Heap) (n0 : Nat) (Z0 : n0 ≤ h0.size) (hnz : ¬ (q1 = (0 : Int64))) :
    MetFree l (⟨"com/example/blend2/blend2/FixedWindowIsIdleAtPinLaw", "windowEnd", "(JJ)J"⟩ : MethodName) (head1 (Jvm.Cond.code (⟨"com/example/blend2/blend2/FixedWindowIsIdleAtPinLaw", "windowEnd", "(JJ)J"⟩ : MethodName) method_2_code 6 (some .long) :: ws) ({ frames := 0, cells := 0, slots := 0, locals := 0 } : Room)) (fun a U => a = #[(.long q0), (.long q1)] ∧ Z.Warmed39 U.vm ∧ U.heap = h0) (fun _ _ _ _ _ => True) (fun _ U o U' => ∃ v L, o = .returned v ∧ Qwen Z q0 q1 h0 n0 v U'.heap L ∧ FrameEnd U o U' L ({ frames := 0, cells := 0, slots := 0, locals := 0 } : Room).cells ({ frames := 0, cells := 0, slots := 0, locals := 0 } : Room).slots) := by
  refine MetFree.of_bodySF (plainFor_of_name pn_19) hisR ?_
  intro p e s m args below meth c s₁ Bd hml0 hP hK
  obtain ⟨rfl, hZ, hh⟩ := hP
  have hx := Bd.exec
  have hby := Bd.bytes
  have hml : c.maxLocals = 6 := hml0
  have hown : s.vm.findClass "com/example/blend2/blend2/FixedWindowIsIdleAtPinLaw" = some m.cls := findClass_of_methodNamed Bd.named
  have hnm := (name_of_methodNamed Bd.named Bd.method).1
  have X0 : Stand p l e ({ frames := 0, cells := 0, slots := 0, locals := 0 } : Room) s m #[(.long q0), (.long q1)] below meth c s₁ [] 0 0 := Stand.of_body Bd
  have e0 : s₁.heap = h0 := by rw [← hh, Bd.state]; rfl
  have N0 := Fr.nil n0
  refine own_go (B := s₁.setTop (mkF m 0 (LS_JsJsuu q0 q1) [])) (fun t k => castTop (ef_wen m q0 q1) k) ?_
  refine own_go (B := s₁.setTop (mkF m 9 (LS_JsJsJs q0 q1 (q0 - (q0 / q1) * q1)) [(.int (lcmpW (q0 - (q0 / q1) * q1) (0 : Int64)))])) (fun t k => ?_) ?_
  · show Steps p.tables e below (s₁.setTop (mkF m 0 (LS_JsJsuu q0 q1) [])) _
    refine XS.lloadN X0.here hx rfl (hb hby d19_0) rfl ?_
    show Steps p.tables e below (s₁.setTop (mkF m 1 (LS_JsJsuu q0 q1) [(.long q0)])) _
    refine XS.lloadN X0.here hx rfl (hb hby d19_1) rfl ?_
    show Steps p.tables e below (s₁.setTop (mkF m 2 (LS_JsJsuu q0 q1) [(.long q1), (.long q0)])) _
    refine XS.lrem X0.here hx rfl (hb hby d19_2) rfl hnz ?_
    show Steps p.tables e below (s₁.setTop (mkF m 3 (LS_JsJsuu q0 q1) [(.long (q0 - (q0 / q1) * q1))])) _
    refine XS.lstore X0.here hx rfl (hb hby d19_3) rfl (l' := (LS_JsJsJs q0 q1 (q0 - (q0 / q1) * q1))) rfl ?_
    show Steps p.tables e below (s₁.setTop (mkF m 5 (LS_JsJsJs q0 q1 (q0 - (q0 / q1) * q1)) [])) _
    refine XS.lload X0.here hx rfl (hb hby d19_5) rfl ?_
    show Steps p.tables e below (s₁.setTop (mkF m 7 (LS_JsJsJs q0 q1 (q0 - (q0 / q1) * q1)) [(.long (q0 - (q0 / q1) * q1))])) _
    refine XS.lconst X0.here hx rfl (hb hby d19_7) ?_
    show Steps p.tables e below (s₁.setTop (mkF m 8 (LS_JsJsJs q0 q1 (q0 - (q0 / q1) * q1)) [(.long (0 : Int64)), (.long (q0 - (q0 / q1) * q1))])) _
    refine XS.lcmp X0.here hx rfl (hb hby d19_8) rfl ?_
    exact k
  by_cases hc9_1 : (q0 - (q0 / q1) * q1) < (0 : Int64)
  · refine own_go (B := s₁.setTop (mkF m 24 (LS_JsJsJs q0 q1 ((q0 - (q0 / q1) * q1) + q1)) [(.long ((q0 - ((q0 - (q0 / q1) * q1) + q1)) + q1))])) (fun t k => ?_) ?_
    · show Steps p.tables e below (s₁.setTop (mkF m 9 (LS_JsJsJs q0 q1 (q0 - (q0 / q1) * q1)) [(.int (lcmpW (q0 - (q0 / q1) * q1) (0 : Int64)))])) _
      refine XS.ifNo X0.here hx rfl (hb hby d19_9) rfl ((if0 _ _).trans (tlt ((lw_lt (q0 - (q0 / q1) * q1) (0 : Int64)).mpr hc9_1)).2.1) ?_
      show Steps p.tables e below (s₁.setTop (mkF m 12 (LS_JsJsJs q0 q1 (q0 - (q0 / q1) * q1)) [])) _
      refine XS.lload X0.here hx rfl (hb hby d19_12) rfl ?_
      show Steps p.tables e below (s₁.setTop (mkF m 14 (LS_JsJsJs q0 q1 (q0 - (q0 / q1) * q1)) [(.long (q0 - (q0 / q1) * q1))])) _
      refine XS.lloadN X0.here hx rfl (hb hby d19_14) rfl ?_
      show Steps p.tables e below (s₁.setTop (mkF m 15 (LS_JsJsJs q0 q1 (q0 - (q0 / q1) * q1)) [(.long q1), (.long (q0 - (q0 / q1) * q1))])) _
      refine XS.ladd X0.here hx rfl (hb hby d19_15) rfl ?_
      show Steps p.tables e below (s₁.setTop (mkF m 16 (LS_JsJsJs q0 q1 (q0 - (q0 / q1) * q1)) [(.long ((q0 - (q0 / q1) * q1) + q1))])) _
      refine XS.lstore X0.here hx rfl (hb hby d19_16) rfl (l' := (LS_JsJsJs q0 q1 ((q0 - (q0 / q1) * q1) + q1))) rfl ?_
      show Steps p.tables e below (s₁.setTop (mkF m 18 (LS_JsJsJs q0 q1 ((q0 - (q0 / q1) * q1) + q1)) [])) _
      refine XS.lloadN X0.here hx rfl (hb hby d19_18) rfl ?_
      show Steps p.tables e below (s₁.setTop (mkF m 19 (LS_JsJsJs q0 q1 ((q0 - (q0 / q1) * q1) + q1)) [(.long q0)])) _
      refine XS.lload X0.here hx rfl (hb hby d19_19) rfl ?_
      show Steps p.tables e below (s₁.setTop (mkF m 21 (LS_JsJsJs q0 q1 ((q0 - (q0 / q1) * q1) + q1)) [(.long ((q0 - (q0 / q1) * q1) + q1)), (.long q0)])) _
      refine XS.lsub X0.here hx rfl (hb hby d19_21) rfl ?_
      show Steps p.tables e below (s₁.setTop (mkF m 22 (LS_JsJsJs q0 q1 ((q0 - (q0 / q1) * q1) + q1)) [(.long (q0 - ((q0 - (q0 / q1) * q1) + q1)))])) _
      refine XS.lloadN X0.here hx rfl (hb hby d19_22) rfl ?_
      show Steps p.tables e below (s₁.setTop (mkF m 23 (LS_JsJsJs q0 q1 ((q0 - (q0 / q1) * q1) + q1)) [(.long q1), (.long (q0 - ((q0 - (q0 / q1) * q1) + q1)))])) _
      refine XS.ladd X0.here hx rfl (hb hby d19_23) rfl ?_
      exact k
    obtain ⟨fs, hr, hrun, hended, hW, hsame⟩ := X0.leave (v := some (.long ((q0 - ((q0 - (q0 / q1) * q1) + q1)) + q1))) (fun h => by rw [Bd.returns] at h; cases h)
    refine ⟨_, _, ?_, hrun, hended, _, _, rfl, ?_, ⟨_, rfl⟩, hW, hsame.mono (by decide) (by decide)⟩
    · show Steps p.tables e below (s₁.setTop (mkF m 24 (LS_JsJsJs q0 q1 ((q0 - (q0 / q1) * q1) + q1)) [(.long ((q0 - ((q0 - (q0 / q1) * q1) + q1)) + q1))])) _
      exact retOut X0 hx Bd.returns rfl (Or.inr (Or.inl ⟨rfl, rfl, _, rfl⟩)) (hb hby d19_24) hr
    · show Qwen Z q0 q1 h0 n0 _ s₁.heap _
      rw [e0]
      exact ⟨by rw [own_weA hc9_1], N0, rfl⟩
  · refine own_go (B := s₁.setTop (mkF m 24 (LS_JsJsJs q0 q1 (q0 - (q0 / q1) * q1)) [(.long ((q0 - (q0 - (q0 / q1) * q1)) + q1))])) (fun t k => ?_) ?_
    · show Steps p.tables e below (s₁.setTop (mkF m 9 (LS_JsJsJs q0 q1 (q0 - (q0 / q1) * q1)) [(.int (lcmpW (q0 - (q0 / q1) * q1) (0 : Int64)))])) _
      refine XS.ifYes X0.here hx rfl (pc0 := 9) (pc' := 18) rfl (hb hby d19_9) rfl ((if0 _ _).trans (flt (fun q => hc9_1 ((lw_lt (q0 - (q0 / q1) * q1) (0 : Int64)).mp q))).2.1) (by decide) (by decide) ?_
      show Steps p.tables e below (s₁.setTop (mkF m 18 (LS_JsJsJs q0 q1 (q0 - (q0 / q1) * q1)) [])) _
      refine XS.lloadN X0.here hx rfl (hb hby d19_18) rfl ?_
      show Steps p.tables e below (s₁.setTop (mkF m 19 (LS_JsJsJs q0 q1 (q0 - (q0 / q1) * q1)) [(.long q0)])) _
      refine XS.lload X0.here hx rfl (hb hby d19_19) rfl ?_
      show Steps p.tables e below (s₁.setTop (mkF m 21 (LS_JsJsJs q0 q1 (q0 - (q0 / q1) * q1)) [(.long (q0 - (q0 / q1) * q1)), (.long q0)])) _
      refine XS.lsub X0.here hx rfl (hb hby d19_21) rfl ?_
      show Steps p.tables e below (s₁.setTop (mkF m 22 (LS_JsJsJs q0 q1 (q0 - (q0 / q1) * q1)) [(.long (q0 - (q0 - (q0 / q1) * q1)))])) _
      refine XS.lloadN X0.here hx rfl (hb hby d19_22) rfl ?_
      show Steps p.tables e below (s₁.setTop (mkF m 23 (LS_JsJsJs q0 q1 (q0 - (q0 / q1) * q1)) [(.long q1), (.long (q0 - (q0 - (q0 / q1) * q1)))])) _
      refine XS.ladd X0.here hx rfl (hb hby d19_23) rfl ?_
      exact k
    obtain ⟨fs, hr, hrun, hended, hW, hsame⟩ := X0.leave (v := some (.long ((q0 - (q0 - (q0 / q1) * q1)) + q1))) (fun h => by rw [Bd.returns] at h; cases h)
    refine ⟨_, _, ?_, hrun, hended, _, _, rfl, ?_, ⟨_, rfl⟩, hW, hsame.mono (by decide) (by decide)⟩
    · show Steps p.tables e below (s₁.setTop (mkF m 24 (LS_JsJsJs q0 q1 (q0 - (q0 / q1) * q1)) [(.long ((q0 - (q0 - (q0 / q1) * q1)) + q1))])) _
      exact retOut X0 hx Bd.returns rfl (Or.inr (Or.inl ⟨rfl, rfl, _, rfl⟩)) (hb hby d19_24) hr
    · show Qwen Z q0 q1 h0 n0 _ s₁.heap _
      rw [e0]
      exact ⟨by rw [own_weB hc9_1], N0, rfl⟩
theorem ef_fwi (m : MethodId) (r0 : Addr) (r1 : Addr) : entryFrame m #[(.ref r0), (.ref r1)] 2 = mkF m 0 #[.val (.ref r0), .val (.ref r1)] [] := by first | (simp [entryFrame, mkF, argsToLocals, Value.category]; done) | rfl
theorem pn_7 : plainName "com/example/blend2/blend2/FixedWindow" = true := by first | (simp [plainName, overriddenIn]; done) | decide +kernel
theorem d7_0 : decode prog_4_method_1_code 0 = .ok (.aload_n 0, 1) := by decide +kernel
theorem d7_1 : decode prog_4_method_1_code 1 = .ok (.invokespecial 1, 3) := by decide +kernel
theorem d7_4 : decode prog_4_method_1_code 4 = .ok (.aload_n 0, 1) := by decide +kernel
theorem d7_5 : decode prog_4_method_1_code 5 = .ok (.aload_n 1, 1) := by decide +kernel
theorem d7_6 : decode prog_4_method_1_code 6 = .ok (.putfield 7, 3) := by decide +kernel
theorem d7_9 : decode prog_4_method_1_code 9 = .ok (.aload_n 0, 1) := by decide +kernel
theorem d7_10 : decode prog_4_method_1_code 10 = .ok (.aload_n 1, 1) := by decide +kernel
theorem d7_11 : decode prog_4_method_1_code 11 = .ok (.invokevirtual 13, 3) := by decide +kernel
theorem pd___I : parseMethodDescriptor "()I" = some ⟨[], some .int⟩ := by decide +kernel
theorem d7_14 : decode prog_4_method_1_code 14 = .ok (.i2l, 1) := by decide +kernel
theorem d7_15 : decode prog_4_method_1_code 15 = .ok (.ldc2_w 19, 3) := by decide +kernel
theorem d7_18 : decode prog_4_method_1_code 18 = .ok (.lmul, 1) := by decide +kernel
theorem d7_19 : decode prog_4_method_1_code 19 = .ok (.putfield 21, 3) := by decide +kernel
theorem d7_22 : decode prog_4_method_1_code 22 = .ok (.return_, 1) := by decide +kernel
def Qfwi (Z : State) (r0 : Addr) (r1 : Addr) (p2 : Int32) (h0 : Heap) (n0 : Nat) (v : Option Value) (h : Heap) (L : List Loc) : Prop := v = none ∧ Fr n0 L ∧ Keep h0 h [r0] ∧ Fld Z h r0 "com/example/blend2/blend2/FixedWindow" "rule" "Lcom/example/blend2/blend2/Rule;" (.ref r1) ∧ Fld Z h r0 "com/example/blend2/blend2/FixedWindow" "windowMillis" "J" (.long ((p2.toInt64) * (1000 : Int64))) ∧ Fld Z h r0 "com/example/blend2/blend2/FixedWindow" "windowStart" "J" (.long (0 : Int64)) ∧ Fld Z h r0 "com/example/blend2/blend2/FixedWindow" "admitted" "I" (.int (0 : Int32))
set_option maxRecDepth 65536 in
set_option maxHeartbeats 40000000 in
theorem rmfwi (l : Launch) (Z : State) (a0 : Array Value) (hw : ∀ d ∈ tables_1, d.before a0 Z = true) (ws : List Jvm.Cond) (r0 : Addr) (r1 : Addr) (p2 : Int32) (h0 : Heap) (n0 : Nat) (Z0 : n0 ≤ h0.size) (E0 : Exa Z h0 r0 "com/example/blend2/blend2/FixedWindow") (Er : Exa Z h0 r1 "com/example/blend2/blend2/Rule") (Fr1 : Fld Z h0 r1 "com/example/blend2/blend2/Rule" "timeWindowSec" "I" (.int p2)) (F0 : Fld Z h0 r0 "com/example/blend2/blend2/FixedWindow" "rule" "Lcom/example/blend2/blend2/Rule;" .null) (F1 : Fld Z h0 r0 "com/example/blend2/blend2/FixedWindow" "windowMillis" "J" (.long (0 : Int64))) (F2 : Fld Z h0 r0 "com/example/blend2/blend2/FixedWindow" "windowStart" "J" (.long (0 : Int64))) (F3 : Fld Z h0 r0 "com/example/blend2/blend2/FixedWindow" "admitted" "I" (.int (0 : Int32))) (hne : r1 ≠ r0) (g_r0 : n0 ≤ r0) :
    MetFree l (⟨"com/example/blend2/blend2/FixedWindow", "<init>", "(Lcom/example/blend2/blend2/Rule;)V"⟩ : MethodName) (head1 (Jvm.Cond.code (⟨"com/example/blend2/blend2/FixedWindow", "<init>", "(Lcom/example/blend2/blend2/Rule;)V"⟩ : MethodName) prog_4_method_1_code 2 none :: ws) ({ frames := 1, cells := 0, slots := 0, locals := 20 } : Room)) (fun a U => a = #[(.ref r0), (.ref r1)] ∧ Z.Warmed39 U.vm ∧ U.heap = h0) (fun _ _ _ _ _ => True) (fun _ U o U' => ∃ v L, o = .returned v ∧ Qfwi Z r0 r1 p2 h0 n0 v U'.heap L ∧ FrameEnd U o U' L ({ frames := 1, cells := 0, slots := 0, locals := 20 } : Room).cells ({ frames := 1, cells := 0, slots := 0, locals := 20 } : Room).slots) := by
  refine MetFree.of_bodySF (plainFor_of_name pn_7) hisR ?_
  intro p e s m args below meth c s₁ Bd hml0 hP hK
  obtain ⟨rfl, hZ, hh⟩ := hP
  have hx := Bd.exec
  have hby := Bd.bytes
  have hml : c.maxLocals = 2 := hml0
  have hown : s.vm.findClass "com/example/blend2/blend2/FixedWindow" = some m.cls := findClass_of_methodNamed Bd.named
  have hnm := (name_of_methodNamed Bd.named Bd.method).1
  have X0 : Stand p l e ({ frames := 1, cells := 0, slots := 0, locals := 20 } : Room) s m #[(.ref r0), (.ref r1)] below meth c s₁ [] 0 0 := Stand.of_body Bd
  have e0 : s₁.heap = h0 := by rw [← hh, Bd.state]; rfl
  have N0 := Fr.nil n0
  refine own_go (B := s₁.setTop (mkF m 0 (LS_RR r0 r1) [])) (fun t k => castTop (ef_fwi m r0 r1) k) ?_
  have K0 : Keep h0 h0 [r0] := Keep.refl _ _
  refine own_go (B := s₁.setTop (mkF m 1 (LS_RR r0 r1) [(.ref r0)])) (fun t k => ?_) ?_
  · show Steps p.tables e below (s₁.setTop (mkF m 0 (LS_RR r0 r1) [])) _
    refine XS.aloadN X0.here hx rfl (hb hby d7_0) rfl rfl ?_
    exact k
  obtain ⟨T1, X1, e1, st1⟩ := initO X0 hx hZ hown (hw _ (List.mem_of_getElem? (i := 64) rfl)) (hw _ (List.mem_of_getElem? (i := 42) rfl)) (hw _ (List.mem_of_getElem? (i := 43) rfl)) e0 (g := (mkF m 1 (LS_RR r0 r1) [(.ref r0)])) rfl (by rw [hml]; rfl) rfl (hb hby d7_1) (by decide) (W := 0) (by show 2 * 0 + _ ≤ _; exact Nat.le_of_eq rfl) (by decide)
  refine own_go (B := T1.setTop (mkF m 4 (LS_RR r0 r1) [])) (fun t k => st1 _ k) ?_
  refine own_go (B := T1.setTop (mkF m 6 (LS_RR r0 r1) [(.ref r1), (.ref r0)])) (fun t k => ?_) ?_
  · show Steps p.tables e below (T1.setTop (mkF m 4 (LS_RR r0 r1) [])) _
    refine XS.aloadN X1.here hx rfl (hb hby d7_4) rfl rfl ?_
    show Steps p.tables e below (T1.setTop (mkF m 5 (LS_RR r0 r1) [(.ref r0)])) _
    refine XS.aloadN X1.here hx rfl (hb hby d7_5) rfl rfl ?_
    exact k
  obtain ⟨T2, h2, X2, e2, W2, st2⟩ := putF X1 hx hZ hown (host := "") (Or.inl (hw _ (List.mem_of_getElem? (i := 65) rfl))) Via.refl e1 F0 E0 (Or.inr ⟨(hw _ (List.mem_of_getElem? (i := 66) rfl)), rfl, hnm⟩) (hw _ (List.mem_of_getElem? (i := 9) rfl)) (ty := (.object "com/example/blend2/blend2/Rule")) (by decide) rfl rfl (g := (mkF m 6 (LS_RR r0 r1) [(.ref r1), (.ref r0)])) rfl rfl (hb hby d7_6)
  have N2 := Fr.snoc X2 N0 g_r0
  have Fw2 := F0.same W2
  refine own_go (B := T2.setTop (mkF m 9 (LS_RR r0 r1) [])) (fun t k => st2 _ k) ?_
  refine own_go (B := T2.setTop (mkF m 11 (LS_RR r0 r1) [(.ref r1), (.ref r0)])) (fun t k => ?_) ?_
  · show Steps p.tables e below (T2.setTop (mkF m 9 (LS_RR r0 r1) [])) _
    refine XS.aloadN X2.here hx rfl (hb hby d7_9) rfl rfl ?_
    show Steps p.tables e below (T2.setTop (mkF m 10 (LS_RR r0 r1) [(.ref r0)])) _
    refine XS.aloadN X2.here hx rfl (hb hby d7_10) rfl rfl ?_
    exact k
  have Fr1_v3 := Fr1.other W2 (Or.inl hne)
  have Z0_v4 := Nat.le_trans Z0 (Nat.le_of_eq W2.size.symm)
  have Er_v6 := Er.wr W2
  obtain ⟨cq5, kq5, q5a, q5b, q5c⟩ := isOf hZ e2 Er_v6
  obtain ⟨_, _, ⟨T5, L5, k5, n5⟩, -, X5, ⟨Lc5, hQ5, l5, y5, z5⟩, st5⟩ := X2.virtualBack hx (y := (⟨"com/example/blend2/blend2/Rule", "timeWindowSec", "()I"⟩ : MethodName)) (z := (⟨"com/example/blend2/blend2/Rule", "timeWindowSec", "()I"⟩ : MethodName)) hown (mvT hZ (hw _ (List.mem_of_getElem? (i := 67) rfl))) (mvT hZ (hw _ (List.mem_of_getElem? (i := 68) rfl))) (notFace_of_selects (args := #[]) (mvT hZ (hw _ (List.mem_of_getElem? (i := 70) rfl)))) (mvT hZ (hw _ (List.mem_of_getElem? (i := 70) rfl))) (mvT hZ (hw _ (List.mem_of_getElem? (i := 69) rfl))) (by decide) (backOf (W := 1) (rmgtimeWindowSec l Z a0 hw [] r1 p2 h2 n0 Z0_v4 Fr1_v3) hZ (hw _ (List.mem_of_getElem? (i := 71) rfl)) (hw _ (List.mem_of_getElem? (i := 13) rfl)) (by decide) (by decide)) q5a q5c (g := (mkF m 11 (LS_RR r0 r1) [(.ref r1), (.ref r0)])) rfl (by rw [hml]; rfl) (Steps.refl _) (argsL := []) (rest := [(.ref r0)]) (lenOf pd___I rfl) rfl (by show 2 * 0 + _ ≤ _; exact Nat.le_of_eq rfl) (hb hby d7_11) (fun _ _ => ⟨rfl, e2, (by decide : 0 + 0 ≤ _), (by decide : 0 + 0 ≤ _)⟩)
  dsimp only [Pt.U, Pt.locs, Pt.cells, Pt.slots] at X5 l5 y5 z5 st5 hQ5
  subst l5 y5 z5
  obtain ⟨rfl, N5q, e5⟩ := hQ5
  have N5 := Fr.app N2 N5q
  refine own_go (B := T5.setTop (mkF m 14 (LS_RR r0 r1) [(.int p2), (.ref r0)])) (fun t k => st5.trans k) ?_
  refine own_go (B := T5.setTop (mkF m 19 (LS_RR r0 r1) [(.long ((p2.toInt64) * (1000 : Int64))), (.ref r0)])) (fun t k => ?_) ?_
  · show Steps p.tables e below (T5.setTop (mkF m 14 (LS_RR r0 r1) [(.int p2), (.ref r0)])) _
    refine XS.i2l X5.here hx rfl (hb hby d7_14) rfl ?_
    show Steps p.tables e below (T5.setTop (mkF m 15 (LS_RR r0 r1) [(.long (p2.toInt64)), (.ref r0)])) _
    refine X5.ldc2Long hx hown (mvT hZ (hw _ (List.mem_of_getElem? (i := 72) rfl))) (g := (mkF m 15 (LS_RR r0 r1) [(.long (p2.toInt64)), (.ref r0)])) rfl (hb hby d7_15) _ ?_
    show Steps p.tables e below (T5.setTop (mkF m 18 (LS_RR r0 r1) [(.long (1000 : Int64)), (.long (p2.toInt64)), (.ref r0)])) _
    refine XS.lmul X5.here hx rfl (hb hby d7_18) rfl ?_
    exact k
  have E0_v7 := E0.wr W2
  have F1_v8 := F1.other W2 (Or.inr (slot_ne (Or.inr (hw _ (List.mem_of_getElem? (i := 74) rfl))) (Or.inr (hw _ (List.mem_of_getElem? (i := 66) rfl))) (by decide) (t := .long) (t' := (.object "com/example/blend2/blend2/Rule")) (by decide) (by decide)))
  obtain ⟨T9, h9, X9, e9, W9, st9⟩ := putF X5 hx hZ hown (host := "") (Or.inl (hw _ (List.mem_of_getElem? (i := 73) rfl))) Via.refl e5 F1_v8 E0_v7 (Or.inr ⟨(hw _ (List.mem_of_getElem? (i := 74) rfl)), rfl, hnm⟩) (hw _ (List.mem_of_getElem? (i := 9) rfl)) (ty := .long) (by decide) rfl rfl (g := (mkF m 19 (LS_RR r0 r1) [(.long ((p2.toInt64) * (1000 : Int64))), (.ref r0)])) rfl rfl (hb hby d7_19)
  have N9 := Fr.snoc X9 N5 g_r0
  have Fw9 := F1_v8.same W9
  refine own_go (B := T9.setTop (mkF m 22 (LS_RR r0 r1) [])) (fun t k => st9 _ k) ?_
  obtain ⟨fs, hr, hrun, hended, hW, hsame⟩ := X9.leave (v := none) (fun _ => rfl)
  refine ⟨_, _, ?_, hrun, hended, _, _, rfl, ?_, ⟨_, rfl⟩, hW, hsame.mono (by decide) (by decide)⟩
  · show Steps p.tables e below (T9.setTop (mkF m 22 (LS_RR r0 r1) [])) _
    exact X9.returnOut hx Bd.returns (hb hby d7_22) hr
  · show Qfwi Z r0 r1 p2 h0 n0 _ T9.heap _
    rw [e9]
    have K0_v10 := K0.wr W2 (Or.inl (List.mem_of_getElem? (i := 0) rfl))
    have K0_v11 := K0_v10.wr W9 (Or.inl (List.mem_of_getElem? (i := 0) rfl))
    have Fw2_v12 := Fw2.other W9 (Or.inr (slot_ne (Or.inr (hw _ (List.mem_of_getElem? (i := 66) rfl))) (Or.inr (hw _ (List.mem_of_getElem? (i := 74) rfl))) (by decide) (t := (.object "com/example/blend2/blend2/Rule")) (t' := .long) (by decide) (by decide)))
    have F2_v13 := F2.other W2 (Or.inr (slot_ne (Or.inl (hw _ (List.mem_of_getElem? (i := 84) rfl))) (Or.inr (hw _ (List.mem_of_getElem? (i := 66) rfl))) (by decide) (t := .long) (t' := (.object "com/example/blend2/blend2/Rule")) (by decide) (by decide)))
    have F2_v14 := F2_v13.other W9 (Or.inr (slot_ne (Or.inl (hw _ (List.mem_of_getElem? (i := 84) rfl))) (Or.inr (hw _ (List.mem_of_getElem? (i := 74) rfl))) (by decide) (t := .long) (t' := .long) (by decide) (by decide)))
    have F3_v15 := F3.other W2 (Or.inr (slot_ne (Or.inl (hw _ (List.mem_of_getElem? (i := 86) rfl))) (Or.inr (hw _ (List.mem_of_getElem? (i := 66) rfl))) (by decide) (t := .int) (t' := (.object "com/example/blend2/blend2/Rule")) (by decide) (by decide)))
    have F3_v16 := F3_v15.other W9 (Or.inr (slot_ne (Or.inl (hw _ (List.mem_of_getElem? (i := 86) rfl))) (Or.inr (hw _ (List.mem_of_getElem? (i := 74) rfl))) (by decide) (t := .int) (t' := .long) (by decide) (by decide)))
    exact ⟨rfl, N9, K0_v11, Fw2_v12, Fw9, F2_v14, F3_v16⟩
theorem ef_idl (m : MethodId) (r0 : Addr) (q1 : Int64) : entryFrame m #[(.ref r0), (.long q1)] 3 = mkF m 0 #[.val (.ref r0), .val (.long q1), .second] [] := by first | (simp [entryFrame, mkF, argsToLocals, Value.category]; done) | rfl
theorem pn_20 : plainName "com/example/blend2/blend2/FixedWindow" = true := by first | (simp [plainName, overriddenIn]; done) | decide +kernel
abbrev LS_RJs (a0 : Addr) (a1 : Int64) : Array Slot := #[.val (.ref a0), .val (.long a1), .second]
theorem d20_0 : decode prog_4_method_3_code 0 = .ok (.aload_n 0, 1) := by decide +kernel
theorem d20_1 : decode prog_4_method_3_code 1 = .ok (.getfield 34, 3) := by decide +kernel
theorem d20_4 : decode prog_4_method_3_code 4 = .ok (.ifCond .eq 17, 3) := by decide +kernel
theorem d20_21 : decode prog_4_method_3_code 21 = .ok (.iconst 1, 1) := by decide +kernel
theorem d20_22 : decode prog_4_method_3_code 22 = .ok (.goto 4, 3) := by decide +kernel
theorem d20_26 : decode prog_4_method_3_code 26 = .ok (.ireturn, 1) := by decide +kernel
theorem d20_7 : decode prog_4_method_3_code 7 = .ok (.lload_n 1, 1) := by decide +kernel
theorem d20_8 : decode prog_4_method_3_code 8 = .ok (.aload_n 0, 1) := by decide +kernel
theorem d20_9 : decode prog_4_method_3_code 9 = .ok (.getfield 31, 3) := by decide +kernel
theorem d20_12 : decode prog_4_method_3_code 12 = .ok (.aload_n 0, 1) := by decide +kernel
theorem d20_13 : decode prog_4_method_3_code 13 = .ok (.getfield 21, 3) := by decide +kernel
theorem d20_16 : decode prog_4_method_3_code 16 = .ok (.ladd, 1) := by decide +kernel
theorem d20_17 : decode prog_4_method_3_code 17 = .ok (.lcmp, 1) := by decide +kernel
theorem d20_18 : decode prog_4_method_3_code 18 = .ok (.ifCond .lt 7, 3) := by decide +kernel
theorem d20_25 : decode prog_4_method_3_code 25 = .ok (.iconst 0, 1) := by decide +kernel
def Qidl (Z : State) (r0 : Addr) (q1 : Int64) (wm wst : Int64) (ad : Int32) (h0 : Heap) (n0 : Nat) (v : Option Value) (h : Heap) (L : List Loc) : Prop := v = some (.int (if ad = (0 : Int32) then (1 : Int32) else if q1 < (wst + wm) then (0 : Int32) else (1 : Int32))) ∧ Fr n0 L ∧ h = h0
set_option maxRecDepth 65536 in
set_option maxHeartbeats 40000000 in
theorem rmidl (l : Launch) (Z : State) (a0 : Array Value) (hw : ∀ d ∈ tables_1, d.before a0 Z = true) (ws : List Jvm.Cond) (r0 : Addr) (q1 : Int64) (wm wst : Int64) (ad : Int32) (h0 : Heap) (n0 : Nat) (Z0 : n0 ≤ h0.size) (F0 : Fld Z h0 r0 "com/example/blend2/blend2/FixedWindow" "admitted" "I" (.int ad)) (F1 : Fld Z h0 r0 "com/example/blend2/blend2/FixedWindow" "windowStart" "J" (.long wst)) (F2 : Fld Z h0 r0 "com/example/blend2/blend2/FixedWindow" "windowMillis" "J" (.long wm)) :
    MetFree l (⟨"com/example/blend2/blend2/FixedWindow", "isIdleAt", "(J)Z"⟩ : MethodName) (head1 (Jvm.Cond.code (⟨"com/example/blend2/blend2/FixedWindow", "isIdleAt", "(J)Z"⟩ : MethodName) prog_4_method_3_code 3 (some .boolean) :: ws) ({ frames := 0, cells := 0, slots := 0, locals := 0 } : Room)) (fun a U => a = #[(.ref r0), (.long q1)] ∧ Z.Warmed39 U.vm ∧ U.heap = h0) (fun _ _ _ _ _ => True) (fun _ U o U' => ∃ v L, o = .returned v ∧ Qidl Z r0 q1 wm wst ad h0 n0 v U'.heap L ∧ FrameEnd U o U' L ({ frames := 0, cells := 0, slots := 0, locals := 0 } : Room).cells ({ frames := 0, cells := 0, slots := 0, locals := 0 } : Room).slots) := by
  refine MetFree.of_bodySF (plainFor_of_name pn_20) hisR ?_
  intro p e s m args below meth c s₁ Bd hml0 hP hK
  obtain ⟨rfl, hZ, hh⟩ := hP
  have hx := Bd.exec
  have hby := Bd.bytes
  have hml : c.maxLocals = 3 := hml0
  have hown : s.vm.findClass "com/example/blend2/blend2/FixedWindow" = some m.cls := findClass_of_methodNamed Bd.named
  have hnm := (name_of_methodNamed Bd.named Bd.method).1
  have X0 : Stand p l e ({ frames := 0, cells := 0, slots := 0, locals := 0 } : Room) s m #[(.ref r0), (.long q1)] below meth c s₁ [] 0 0 := Stand.of_body Bd
  have e0 : s₁.heap = h0 := by rw [← hh, Bd.state]; rfl
  have N0 := Fr.nil n0
  refine own_go (B := s₁.setTop (mkF m 0 (LS_RJs r0 q1) [])) (fun t k => castTop (ef_idl m r0 q1) k) ?_
  refine own_go (B := s₁.setTop (mkF m 1 (LS_RJs r0 q1) [(.ref r0)])) (fun t k => ?_) ?_
  · show Steps p.tables e below (s₁.setTop (mkF m 0 (LS_RJs r0 q1) [])) _
    refine XS.aloadN X0.here hx rfl (hb hby d20_0) rfl rfl ?_
    exact k
  obtain ⟨T1, X1, e1, st1⟩ := getF X0 hx hZ hown (host := "") (Or.inl (hw _ (List.mem_of_getElem? (i := 85) rfl))) Via.refl e0 F0 (g := (mkF m 1 (LS_RJs r0 q1) [(.ref r0)])) rfl rfl (hb hby d20_1)
  refine own_go (B := T1.setTop (mkF m 4 (LS_RJs r0 q1) [(.int ad)])) (fun t k => st1 _ k) ?_
  by_cases hc4_2 : ad = (0 : Int32)
  · refine own_go (B := T1.setTop (mkF m 26 (LS_RJs r0 q1) [(.int (1 : Int32))])) (fun t k => ?_) ?_
    · show Steps p.tables e below (T1.setTop (mkF m 4 (LS_RJs r0 q1) [(.int ad)])) _
      refine XS.ifYes X1.here hx rfl (pc0 := 4) (pc' := 21) rfl (hb hby d20_4) rfl ((if0 _ _).trans (teq hc4_2).1) (by decide) (by decide) ?_
      show Steps p.tables e below (T1.setTop (mkF m 21 (LS_RJs r0 q1) [])) _
      refine XS.iconst X1.here hx rfl (hb hby d20_21) ?_
      show Steps p.tables e below (T1.setTop (mkF m 22 (LS_RJs r0 q1) [(.int (1 : Int32))])) _
      refine XS.goto X1.here hx rfl (pc0 := 22) (pc' := 26) rfl (hb hby d20_22) (by decide) (by decide) ?_
      exact k
    obtain ⟨fs, hr, hrun, hended, hW, hsame⟩ := X1.leave (v := some (.int (1 : Int32))) (fun h => by rw [Bd.returns] at h; cases h)
    refine ⟨_, _, ?_, hrun, hended, _, _, rfl, ?_, ⟨_, rfl⟩, hW, hsame.mono (by decide) (by decide)⟩
    · show Steps p.tables e below (T1.setTop (mkF m 26 (LS_RJs r0 q1) [(.int (1 : Int32))])) _
      exact retN X1 hx (t := .boolean) Bd.returns (by simp) (hb hby d20_26) hr
    · show Qidl Z r0 q1 wm wst ad h0 n0 _ T1.heap _
      rw [e1]
      exact ⟨by rw [if_pos hc4_2], N0, rfl⟩
  · refine own_go (B := T1.setTop (mkF m 9 (LS_RJs r0 q1) [(.ref r0), (.long q1)])) (fun t k => ?_) ?_
    · show Steps p.tables e below (T1.setTop (mkF m 4 (LS_RJs r0 q1) [(.int ad)])) _
      refine XS.ifNo X1.here hx rfl (hb hby d20_4) rfl ((if0 _ _).trans (feq hc4_2).1) ?_
      show Steps p.tables e below (T1.setTop (mkF m 7 (LS_RJs r0 q1) [])) _
      refine XS.lloadN X1.here hx rfl (hb hby d20_7) rfl ?_
      show Steps p.tables e below (T1.setTop (mkF m 8 (LS_RJs r0 q1) [(.long q1)])) _
      refine XS.aloadN X1.here hx rfl (hb hby d20_8) rfl rfl ?_
      exact k
    obtain ⟨T3, X3, e3, st3⟩ := getF X1 hx hZ hown (host := "") (Or.inl (hw _ (List.mem_of_getElem? (i := 83) rfl))) Via.refl e1 F1 (g := (mkF m 9 (LS_RJs r0 q1) [(.ref r0), (.long q1)])) rfl rfl (hb hby d20_9)
    refine own_go (B := T3.setTop (mkF m 12 (LS_RJs r0 q1) [(.long wst), (.long q1)])) (fun t k => st3 _ k) ?_
    refine own_go (B := T3.setTop (mkF m 13 (LS_RJs r0 q1) [(.ref r0), (.long wst), (.long q1)])) (fun t k => ?_) ?_
    · show Steps p.tables e below (T3.setTop (mkF m 12 (LS_RJs r0 q1) [(.long wst), (.long q1)])) _
      refine XS.aloadN X3.here hx rfl (hb hby d20_12) rfl rfl ?_
      exact k
    obtain ⟨T4, X4, e4, st4⟩ := getF X3 hx hZ hown (host := "") (Or.inl (hw _ (List.mem_of_getElem? (i := 73) rfl))) Via.refl e3 F2 (g := (mkF m 13 (LS_RJs r0 q1) [(.ref r0), (.long wst), (.long q1)])) rfl rfl (hb hby d20_13)
    refine own_go (B := T4.setTop (mkF m 16 (LS_RJs r0 q1) [(.long wm), (.long wst), (.long q1)])) (fun t k => st4 _ k) ?_
    refine own_go (B := T4.setTop (mkF m 18 (LS_RJs r0 q1) [(.int (lcmpW q1 (wst + wm)))])) (fun t k => ?_) ?_
    · show Steps p.tables e below (T4.setTop (mkF m 16 (LS_RJs r0 q1) [(.long wm), (.long wst), (.long q1)])) _
      refine XS.ladd X4.here hx rfl (hb hby d20_16) rfl ?_
      show Steps p.tables e below (T4.setTop (mkF m 17 (LS_RJs r0 q1) [(.long (wst + wm)), (.long q1)])) _
      refine XS.lcmp X4.here hx rfl (hb hby d20_17) rfl ?_
      exact k
    by_cases hc18_5 : q1 < (wst + wm)
    · refine own_go (B := T4.setTop (mkF m 26 (LS_RJs r0 q1) [(.int (0 : Int32))])) (fun t k => ?_) ?_
      · show Steps p.tables e below (T4.setTop (mkF m 18 (LS_RJs r0 q1) [(.int (lcmpW q1 (wst + wm)))])) _
        refine XS.ifYes X4.here hx rfl (pc0 := 18) (pc' := 25) rfl (hb hby d20_18) rfl ((if0 _ _).trans (tlt ((lw_lt q1 (wst + wm)).mpr hc18_5)).1) (by decide) (by decide) ?_
        show Steps p.tables e below (T4.setTop (mkF m 25 (LS_RJs r0 q1) [])) _
        refine XS.iconst X4.here hx rfl (hb hby d20_25) ?_
        exact k
      obtain ⟨fs, hr, hrun, hended, hW, hsame⟩ := X4.leave (v := some (.int (0 : Int32))) (fun h => by rw [Bd.returns] at h; cases h)
      refine ⟨_, _, ?_, hrun, hended, _, _, rfl, ?_, ⟨_, rfl⟩, hW, hsame.mono (by decide) (by decide)⟩
      · show Steps p.tables e below (T4.setTop (mkF m 26 (LS_RJs r0 q1) [(.int (0 : Int32))])) _
        exact retN X4 hx (t := .boolean) Bd.returns (by simp) (hb hby d20_26) hr
      · show Qidl Z r0 q1 wm wst ad h0 n0 _ T4.heap _
        rw [e4]
        exact ⟨by rw [if_neg hc4_2, if_pos hc18_5], N0, rfl⟩
    · refine own_go (B := T4.setTop (mkF m 26 (LS_RJs r0 q1) [(.int (1 : Int32))])) (fun t k => ?_) ?_
      · show Steps p.tables e below (T4.setTop (mkF m 18 (LS_RJs r0 q1) [(.int (lcmpW q1 (wst + wm)))])) _
        refine XS.ifNo X4.here hx rfl (hb hby d20_18) rfl ((if0 _ _).trans (flt (fun q => hc18_5 ((lw_lt q1 (wst + wm)).mp q))).1) ?_
        show Steps p.tables e below (T4.setTop (mkF m 21 (LS_RJs r0 q1) [])) _
        refine XS.iconst X4.here hx rfl (hb hby d20_21) ?_
        show Steps p.tables e below (T4.setTop (mkF m 22 (LS_RJs r0 q1) [(.int (1 : Int32))])) _
        refine XS.goto X4.here hx rfl (pc0 := 22) (pc' := 26) rfl (hb hby d20_22) (by decide) (by decide) ?_
        exact k
      obtain ⟨fs, hr, hrun, hended, hW, hsame⟩ := X4.leave (v := some (.int (1 : Int32))) (fun h => by rw [Bd.returns] at h; cases h)
      refine ⟨_, _, ?_, hrun, hended, _, _, rfl, ?_, ⟨_, rfl⟩, hW, hsame.mono (by decide) (by decide)⟩
      · show Steps p.tables e below (T4.setTop (mkF m 26 (LS_RJs r0 q1) [(.int (1 : Int32))])) _
        exact retN X4 hx (t := .boolean) Bd.returns (by simp) (hb hby d20_26) hr
      · show Qidl Z r0 q1 wm wst ad h0 n0 _ T4.heap _
        rw [e4]
        exact ⟨by rw [if_neg hc4_2, if_neg hc18_5], N0, rfl⟩
theorem own_cp {cp : Int32} (h : 1 ≤ cp.toInt ∧ cp.toInt ≤ 2) : (0 : Int32) < cp := by
  rw [Int32.lt_iff_toInt_lt]
  have : (0 : Int32).toInt = 0 := rfl
  omega
theorem own_inc {ad : Int32} (h : 0 ≤ ad.toInt ∧ ad.toInt < 2) : (ad + (1 : Int32)).toInt = ad.toInt + 1 := by
  have h1 : (1 : Int32).toInt = 1 := rfl
  rw [Jvm.Kit.i32_add (by rw [h1]; omega) (by rw [h1]; omega), h1]
theorem own_rem0 {cp : Int32} (h : 1 ≤ cp.toInt ∧ cp.toInt ≤ 2) : ¬ ((cp - ((0 : Int32) + (1 : Int32))) < (0 : Int32)) := by
  have e : ((0 : Int32) + (1 : Int32)).toInt = 1 := rfl
  have h0 : (0 : Int32).toInt = 0 := rfl
  rw [Int32.lt_iff_toInt_lt, Jvm.Kit.i32_sub (by omega) (by omega), e, h0]
  omega
theorem own_rem1 {ad cp : Int32} (ha : 0 ≤ ad.toInt ∧ ad.toInt ≤ cp.toInt) (hl : ad < cp) (h : 1 ≤ cp.toInt ∧ cp.toInt ≤ 2) : ¬ ((cp - (ad + (1 : Int32))) < (0 : Int32)) := by
  rw [Int32.lt_iff_toInt_lt] at hl
  have e := own_inc (ad := ad) ⟨ha.1, by omega⟩
  have h0 : (0 : Int32).toInt = 0 := rfl
  rw [Int32.lt_iff_toInt_lt, Jvm.Kit.i32_sub (by omega) (by omega), e, h0]
  omega
theorem own_leftE {t w s : Int64} (e : ((own_fd t w) * w) = s) (hw : 1000 ≤ w.toInt ∧ w.toInt ≤ 2147483647000) (h1 : -4611686018427387904 ≤ t.toInt) (h2 : t.toInt ≤ 4611686018427387904) : 0 < ((s + w) - t).toInt ∧ ((s + w) - t).toInt ≤ 2147483647000 := by
  rw [← e]; exact own_left hw h1 h2
theorem ef_dec (m : MethodId) (r0 : Addr) (q1 : Int64) : entryFrame m #[(.ref r0), (.long q1)] 8 = mkF m 0 #[.val (.ref r0), .val (.long q1), .second, .unset, .unset, .unset, .unset, .unset] [] := by first | (simp [entryFrame, mkF, argsToLocals, Value.category]; done) | rfl
theorem pn_9 : plainName "com/example/blend2/blend2/FixedWindow" = true := by first | (simp [plainName, overriddenIn]; done) | decide +kernel
abbrev LS_RJsuuuuu (a0 : Addr) (a1 : Int64) : Array Slot := #[.val (.ref a0), .val (.long a1), .second, .unset, .unset, .unset, .unset, .unset]
theorem d9_0 : decode prog_4_method_2_code 0 = .ok (.lload_n 1, 1) := by decide +kernel
theorem d9_1 : decode prog_4_method_2_code 1 = .ok (.aload_n 0, 1) := by decide +kernel
theorem d9_2 : decode prog_4_method_2_code 2 = .ok (.getfield 21, 3) := by decide +kernel
theorem d9_5 : decode prog_4_method_2_code 5 = .ok (.invokestatic 25, 3) := by decide +kernel
theorem pd__JJ_J : parseMethodDescriptor "(JJ)J" = some ⟨[.long, .long], some .long⟩ := by decide +kernel
theorem d9_8 : decode prog_4_method_2_code 8 = .ok (.aload_n 0, 1) := by decide +kernel
theorem d9_9 : decode prog_4_method_2_code 9 = .ok (.getfield 21, 3) := by decide +kernel
theorem d9_12 : decode prog_4_method_2_code 12 = .ok (.lmul, 1) := by decide +kernel
theorem d9_13 : decode prog_4_method_2_code 13 = .ok (.lstore_n 3, 1) := by decide +kernel
abbrev LS_RJsJsuuu (a0 : Addr) (a1 : Int64) (a2 : Int64) : Array Slot := #[.val (.ref a0), .val (.long a1), .second, .val (.long a2), .second, .unset, .unset, .unset]
theorem d9_14 : decode prog_4_method_2_code 14 = .ok (.lload_n 3, 1) := by decide +kernel
theorem d9_15 : decode prog_4_method_2_code 15 = .ok (.aload_n 0, 1) := by decide +kernel
theorem d9_16 : decode prog_4_method_2_code 16 = .ok (.getfield 31, 3) := by decide +kernel
theorem d9_19 : decode prog_4_method_2_code 19 = .ok (.lcmp, 1) := by decide +kernel
theorem d9_20 : decode prog_4_method_2_code 20 = .ok (.ifCond .eq 13, 3) := by decide +kernel
theorem d9_33 : decode prog_4_method_2_code 33 = .ok (.aload_n 0, 1) := by decide +kernel
theorem d9_34 : decode prog_4_method_2_code 34 = .ok (.getfield 34, 3) := by decide +kernel
theorem d9_37 : decode prog_4_method_2_code 37 = .ok (.aload_n 0, 1) := by decide +kernel
theorem d9_38 : decode prog_4_method_2_code 38 = .ok (.getfield 7, 3) := by decide +kernel
theorem d9_41 : decode prog_4_method_2_code 41 = .ok (.invokevirtual 38, 3) := by decide +kernel
theorem d9_44 : decode prog_4_method_2_code 44 = .ok (.if_icmp .ge 37, 3) := by decide +kernel
theorem d9_47 : decode prog_4_method_2_code 47 = .ok (.aload_n 0, 1) := by decide +kernel
theorem d9_48 : decode prog_4_method_2_code 48 = .ok (.dup, 1) := by decide +kernel
theorem d9_49 : decode prog_4_method_2_code 49 = .ok (.getfield 34, 3) := by decide +kernel
theorem d9_52 : decode prog_4_method_2_code 52 = .ok (.iconst 1, 1) := by decide +kernel
theorem d9_53 : decode prog_4_method_2_code 53 = .ok (.iadd, 1) := by decide +kernel
theorem d9_54 : decode prog_4_method_2_code 54 = .ok (.putfield 34, 3) := by decide +kernel
theorem d9_57 : decode prog_4_method_2_code 57 = .ok (.aload_n 0, 1) := by decide +kernel
theorem d9_58 : decode prog_4_method_2_code 58 = .ok (.getfield 7, 3) := by decide +kernel
theorem d9_61 : decode prog_4_method_2_code 61 = .ok (.aload_n 0, 1) := by decide +kernel
theorem d9_62 : decode prog_4_method_2_code 62 = .ok (.getfield 7, 3) := by decide +kernel
theorem d9_65 : decode prog_4_method_2_code 65 = .ok (.invokevirtual 38, 3) := by decide +kernel
theorem d9_68 : decode prog_4_method_2_code 68 = .ok (.aload_n 0, 1) := by decide +kernel
theorem d9_69 : decode prog_4_method_2_code 69 = .ok (.getfield 34, 3) := by decide +kernel
theorem d9_72 : decode prog_4_method_2_code 72 = .ok (.isub, 1) := by decide +kernel
theorem d9_73 : decode prog_4_method_2_code 73 = .ok (.invokestatic 41, 3) := by decide +kernel
theorem pd__Lcom_example_blend2_blend2_Rule_I_Lcom_example_blend2_blend2_Decision_ : parseMethodDescriptor "(Lcom/example/blend2/blend2/Rule;I)Lcom/example/blend2/blend2/Decision;" = some ⟨[(.object "com/example/blend2/blend2/Rule"), .int], some (.object "com/example/blend2/blend2/Decision")⟩ := by decide +kernel
theorem d9_76 : decode prog_4_method_2_code 76 = .ok (.astore 5, 2) := by decide +kernel
abbrev LS_RJsJsRuu (a0 : Addr) (a1 : Int64) (a2 : Int64) (a3 : Addr) : Array Slot := #[.val (.ref a0), .val (.long a1), .second, .val (.long a2), .second, .val (.ref a3), .unset, .unset]
theorem d9_78 : decode prog_4_method_2_code 78 = .ok (.goto 30, 3) := by decide +kernel
theorem d9_108 : decode prog_4_method_2_code 108 = .ok (.aload 5, 2) := by decide +kernel
theorem d9_110 : decode prog_4_method_2_code 110 = .ok (.areturn, 1) := by decide +kernel
theorem d9_81 : decode prog_4_method_2_code 81 = .ok (.aload_n 0, 1) := by decide +kernel
theorem d9_82 : decode prog_4_method_2_code 82 = .ok (.getfield 31, 3) := by decide +kernel
theorem d9_85 : decode prog_4_method_2_code 85 = .ok (.aload_n 0, 1) := by decide +kernel
theorem d9_86 : decode prog_4_method_2_code 86 = .ok (.getfield 21, 3) := by decide +kernel
theorem d9_89 : decode prog_4_method_2_code 89 = .ok (.ladd, 1) := by decide +kernel
theorem d9_90 : decode prog_4_method_2_code 90 = .ok (.lstore 6, 2) := by decide +kernel
abbrev LS_RJsJsuJs (a0 : Addr) (a1 : Int64) (a2 : Int64) (a3 : Int64) : Array Slot := #[.val (.ref a0), .val (.long a1), .second, .val (.long a2), .second, .unset, .val (.long a3), .second]
theorem d9_92 : decode prog_4_method_2_code 92 = .ok (.aload_n 0, 1) := by decide +kernel
theorem d9_93 : decode prog_4_method_2_code 93 = .ok (.getfield 7, 3) := by decide +kernel
theorem d9_96 : decode prog_4_method_2_code 96 = .ok (.lload 6, 2) := by decide +kernel
theorem d9_98 : decode prog_4_method_2_code 98 = .ok (.lload_n 1, 1) := by decide +kernel
theorem d9_99 : decode prog_4_method_2_code 99 = .ok (.lsub, 1) := by decide +kernel
theorem d9_100 : decode prog_4_method_2_code 100 = .ok (.invokestatic 46, 3) := by decide +kernel
theorem pd__J_Ljava_time_Duration_ : parseMethodDescriptor "(J)Ljava/time/Duration;" = some ⟨[.long], some (.object "java/time/Duration")⟩ := by decide +kernel
theorem d9_103 : decode prog_4_method_2_code 103 = .ok (.invokestatic 52, 3) := by decide +kernel
theorem pd__Lcom_example_blend2_blend2_Rule_Ljava_time_Duration__Lcom_example_blend2_blend2_Decision_ : parseMethodDescriptor "(Lcom/example/blend2/blend2/Rule;Ljava/time/Duration;)Lcom/example/blend2/blend2/Decision;" = some ⟨[(.object "com/example/blend2/blend2/Rule"), (.object "java/time/Duration")], some (.object "com/example/blend2/blend2/Decision")⟩ := by decide +kernel
theorem d9_106 : decode prog_4_method_2_code 106 = .ok (.astore 5, 2) := by decide +kernel
abbrev LS_RJsJsRJs (a0 : Addr) (a1 : Int64) (a2 : Int64) (a3 : Addr) (a4 : Int64) : Array Slot := #[.val (.ref a0), .val (.long a1), .second, .val (.long a2), .second, .val (.ref a3), .val (.long a4), .second]
theorem d9_23 : decode prog_4_method_2_code 23 = .ok (.aload_n 0, 1) := by decide +kernel
theorem d9_24 : decode prog_4_method_2_code 24 = .ok (.lload_n 3, 1) := by decide +kernel
theorem d9_25 : decode prog_4_method_2_code 25 = .ok (.putfield 31, 3) := by decide +kernel
theorem d9_28 : decode prog_4_method_2_code 28 = .ok (.aload_n 0, 1) := by decide +kernel
theorem d9_29 : decode prog_4_method_2_code 29 = .ok (.iconst 0, 1) := by decide +kernel
theorem d9_30 : decode prog_4_method_2_code 30 = .ok (.putfield 34, 3) := by decide +kernel
def Qdec (Z : State) (r0 : Addr) (q1 : Int64) (rr wz : Addr) (wm wst : Int64) (ad cp : Int32) (h0 : Heap) (n0 : Nat) (v : Option Value) (h : Heap) (L : List Loc) : Prop := ∃ (r : Addr) (ad2 : Int32), v = some (.ref r) ∧ Fr n0 L ∧ Keep h0 h [r0] ∧ Fld Z h r0 "com/example/blend2/blend2/FixedWindow" "rule" "Lcom/example/blend2/blend2/Rule;" (.ref rr) ∧ Fld Z h r0 "com/example/blend2/blend2/FixedWindow" "windowMillis" "J" (.long wm) ∧ Fld Z h r0 "com/example/blend2/blend2/FixedWindow" "windowStart" "J" (.long ((own_fd q1 wm) * wm)) ∧ Fld Z h r0 "com/example/blend2/blend2/FixedWindow" "admitted" "I" (.int ad2) ∧ (1 ≤ ad2.toInt ∧ ad2.toInt ≤ cp.toInt)
set_option maxRecDepth 65536 in
set_option maxHeartbeats 40000000 in
theorem rmdec (l : Launch) (Z : State) (a0 : Array Value) (hw : ∀ d ∈ tables_1, d.before a0 Z = true) (ws : List Jvm.Cond) (r0 : Addr) (q1 : Int64) (rr wz : Addr) (wm wst : Int64) (ad cp : Int32) (h0 : Heap) (n0 : Nat) (Z0 : n0 ≤ h0.size) (S_ZERO : Sta Z h0 "java/time/Duration" "ZERO" "Ljava/time/Duration;" (.ref wz)) (Ez : Exa Z h0 wz "java/time/Duration") (Fz : Fld Z h0 wz "java/time/Duration" "seconds" "J" (.long (0 : Int64))) (E0 : Exa Z h0 r0 "com/example/blend2/blend2/FixedWindow") (Er : Exa Z h0 rr "com/example/blend2/blend2/Rule") (Fc : Fld Z h0 rr "com/example/blend2/blend2/Rule" "capacity" "I" (.int cp)) (F0 : Fld Z h0 r0 "com/example/blend2/blend2/FixedWindow" "rule" "Lcom/example/blend2/blend2/Rule;" (.ref rr)) (F1 : Fld Z h0 r0 "com/example/blend2/blend2/FixedWindow" "windowMillis" "J" (.long wm)) (F2 : Fld Z h0 r0 "com/example/blend2/blend2/FixedWindow" "windowStart" "J" (.long wst)) (F3 : Fld Z h0 r0 "com/example/blend2/blend2/FixedWindow" "admitted" "I" (.int ad)) (hne : rr ≠ r0) (hnz : wz ≠ r0) (g_r0 : n0 ≤ r0) (hw1 : 1000 ≤ wm.toInt ∧ wm.toInt ≤ 2147483647000) (ht1 : -4611686018427387904 ≤ q1.toInt) (ht2 : q1.toInt ≤ 4611686018427387904) (hc1 : 1 ≤ cp.toInt ∧ cp.toInt ≤ 2) (ha1 : 0 ≤ ad.toInt ∧ ad.toInt ≤ cp.toInt) :
    MetFree l (⟨"com/example/blend2/blend2/FixedWindow", "decide", "(J)Lcom/example/blend2/blend2/Decision;"⟩ : MethodName) (head1 (Jvm.Cond.code (⟨"com/example/blend2/blend2/FixedWindow", "decide", "(J)Lcom/example/blend2/blend2/Decision;"⟩ : MethodName) prog_4_method_2_code 8 (some (.object "com/example/blend2/blend2/Decision")) :: ws) ({ frames := 5, cells := 9, slots := 97, locals := 120 } : Room)) (fun a U => a = #[(.ref r0), (.long q1)] ∧ Z.Warmed39 U.vm ∧ U.heap = h0) (fun _ _ _ _ _ => True) (fun _ U o U' => ∃ v L, o = .returned v ∧ Qdec Z r0 q1 rr wz wm wst ad cp h0 n0 v U'.heap L ∧ ReturnedEndW U o U' L ({ frames := 5, cells := 9, slots := 97, locals := 120 } : Room).cells ({ frames := 5, cells := 9, slots := 97, locals := 120 } : Room).slots) := by
  refine MetFree.of_bodySF (plainFor_of_name pn_9) hisR ?_
  intro p e s m args below meth c s₁ Bd hml0 hP hK
  obtain ⟨rfl, hZ, hh⟩ := hP
  have hx := Bd.exec
  have hby := Bd.bytes
  have hml : c.maxLocals = 8 := hml0
  have hown : s.vm.findClass "com/example/blend2/blend2/FixedWindow" = some m.cls := findClass_of_methodNamed Bd.named
  have hnm := (name_of_methodNamed Bd.named Bd.method).1
  have X0 : Stand p l e ({ frames := 5, cells := 9, slots := 97, locals := 120 } : Room) s m #[(.ref r0), (.long q1)] below meth c s₁ [] 0 0 := Stand.of_body Bd
  have e0 : s₁.heap = h0 := by rw [← hh, Bd.state]; rfl
  have N0 := Fr.nil n0
  refine own_go (B := s₁.setTop (mkF m 0 (LS_RJsuuuuu r0 q1) [])) (fun t k => castTop (ef_dec m r0 q1) k) ?_
  have hS0 : s.Since s.vm 0 := (State.WarmedH.refl s).since 0
  have hk0 : 0 ≤ Array.size h0 := Nat.zero_le _
  have K0 : Keep h0 h0 [r0] := Keep.refl _ _
  refine own_go (B := s₁.setTop (mkF m 2 (LS_RJsuuuuu r0 q1) [(.ref r0), (.long q1)])) (fun t k => ?_) ?_
  · show Steps p.tables e below (s₁.setTop (mkF m 0 (LS_RJsuuuuu r0 q1) [])) _
    refine XS.lloadN X0.here hx rfl (hb hby d9_0) rfl ?_
    show Steps p.tables e below (s₁.setTop (mkF m 1 (LS_RJsuuuuu r0 q1) [(.long q1)])) _
    refine XS.aloadN X0.here hx rfl (hb hby d9_1) rfl rfl ?_
    exact k
  obtain ⟨T1, X1, e1, st1⟩ := getF X0 hx hZ hown (host := "") (Or.inl (hw _ (List.mem_of_getElem? (i := 73) rfl))) Via.refl e0 F1 (g := (mkF m 2 (LS_RJsuuuuu r0 q1) [(.ref r0), (.long q1)])) rfl rfl (hb hby d9_2)
  refine own_go (B := T1.setTop (mkF m 5 (LS_RJsuuuuu r0 q1) [(.long wm), (.long q1)])) (fun t k => st1 _ k) ?_
  obtain ⟨_, _, ⟨T2, L2, k2, n2⟩, -, X2, ⟨Lc2, hQ2, l2, y2, z2⟩, st2⟩ := Jvm.LawKit.callS X1 hx (y := (⟨"java/lang/Math", "floorDiv", "(JJ)J"⟩ : MethodName)) hown (mvT hZ (hw _ (List.mem_of_getElem? (i := 80) rfl))) (mvT hZ (hw _ (List.mem_of_getElem? (i := 81) rfl))) (mvT hZ (hw _ (List.mem_of_getElem? (i := 3) rfl))) (mvT hZ (hw _ (List.mem_of_getElem? (i := 82) rfl))) (by decide) (backOf (W := 0) (rmfdv l Z a0 hw [] q1 wm h0 n0 Z0 (own_ne0 hw1)) hZ (hw _ (List.mem_of_getElem? (i := 82) rfl)) (hw _ (List.mem_of_getElem? (i := 3) rfl)) (by decide) (by decide)) (g := (mkF m 5 (LS_RJsuuuuu r0 q1) [(.long wm), (.long q1)])) rfl (by rw [hml]; rfl) (argsL := [(.long q1), (.long wm)]) (rest := []) (lenOf pd__JJ_J rfl) rfl (by show 2 * 0 + _ ≤ _; exact Nat.le_of_eq rfl) (hb hby d9_5) (fun _ _ => ⟨rfl, e1, (by decide : 0 + 0 ≤ _), (by decide : 0 + 0 ≤ _)⟩)
  dsimp only [Pt.U, Pt.locs, Pt.cells, Pt.slots] at X2 l2 y2 z2 st2 hQ2
  subst l2 y2 z2
  obtain ⟨rfl, N2q, e2⟩ := hQ2
  have N2 := Fr.app N0 N2q
  refine own_go (B := T2.setTop (mkF m 8 (LS_RJsuuuuu r0 q1) [(.long (own_fd q1 wm))])) (fun t k => st2 _ k) ?_
  refine own_go (B := T2.setTop (mkF m 9 (LS_RJsuuuuu r0 q1) [(.ref r0), (.long (own_fd q1 wm))])) (fun t k => ?_) ?_
  · show Steps p.tables e below (T2.setTop (mkF m 8 (LS_RJsuuuuu r0 q1) [(.long (own_fd q1 wm))])) _
    refine XS.aloadN X2.here hx rfl (hb hby d9_8) rfl rfl ?_
    exact k
  obtain ⟨T3, X3, e3, st3⟩ := getF X2 hx hZ hown (host := "") (Or.inl (hw _ (List.mem_of_getElem? (i := 73) rfl))) Via.refl e2 F1 (g := (mkF m 9 (LS_RJsuuuuu r0 q1) [(.ref r0), (.long (own_fd q1 wm))])) rfl rfl (hb hby d9_9)
  refine own_go (B := T3.setTop (mkF m 12 (LS_RJsuuuuu r0 q1) [(.long wm), (.long (own_fd q1 wm))])) (fun t k => st3 _ k) ?_
  refine own_go (B := T3.setTop (mkF m 16 (LS_RJsJsuuu r0 q1 ((own_fd q1 wm) * wm)) [(.ref r0), (.long ((own_fd q1 wm) * wm))])) (fun t k => ?_) ?_
  · show Steps p.tables e below (T3.setTop (mkF m 12 (LS_RJsuuuuu r0 q1) [(.long wm), (.long (own_fd q1 wm))])) _
    refine XS.lmul X3.here hx rfl (hb hby d9_12) rfl ?_
    show Steps p.tables e below (T3.setTop (mkF m 13 (LS_RJsuuuuu r0 q1) [(.long ((own_fd q1 wm) * wm))])) _
    refine XS.lstoreN X3.here hx rfl (hb hby d9_13) rfl (l' := (LS_RJsJsuuu r0 q1 ((own_fd q1 wm) * wm))) rfl ?_
    show Steps p.tables e below (T3.setTop (mkF m 14 (LS_RJsJsuuu r0 q1 ((own_fd q1 wm) * wm)) [])) _
    refine XS.lloadN X3.here hx rfl (hb hby d9_14) rfl ?_
    show Steps p.tables e below (T3.setTop (mkF m 15 (LS_RJsJsuuu r0 q1 ((own_fd q1 wm) * wm)) [(.long ((own_fd q1 wm) * wm))])) _
    refine XS.aloadN X3.here hx rfl (hb hby d9_15) rfl rfl ?_
    exact k
  obtain ⟨T4, X4, e4, st4⟩ := getF X3 hx hZ hown (host := "") (Or.inl (hw _ (List.mem_of_getElem? (i := 83) rfl))) Via.refl e3 F2 (g := (mkF m 16 (LS_RJsJsuuu r0 q1 ((own_fd q1 wm) * wm)) [(.ref r0), (.long ((own_fd q1 wm) * wm))])) rfl rfl (hb hby d9_16)
  refine own_go (B := T4.setTop (mkF m 19 (LS_RJsJsuuu r0 q1 ((own_fd q1 wm) * wm)) [(.long wst), (.long ((own_fd q1 wm) * wm))])) (fun t k => st4 _ k) ?_
  refine own_go (B := T4.setTop (mkF m 20 (LS_RJsJsuuu r0 q1 ((own_fd q1 wm) * wm)) [(.int (lcmpW ((own_fd q1 wm) * wm) wst))])) (fun t k => ?_) ?_
  · show Steps p.tables e below (T4.setTop (mkF m 19 (LS_RJsJsuuu r0 q1 ((own_fd q1 wm) * wm)) [(.long wst), (.long ((own_fd q1 wm) * wm))])) _
    refine XS.lcmp X4.here hx rfl (hb hby d9_19) rfl ?_
    exact k
  by_cases hc20_5 : ((own_fd q1 wm) * wm) = wst
  · refine own_go (B := T4.setTop (mkF m 34 (LS_RJsJsuuu r0 q1 ((own_fd q1 wm) * wm)) [(.ref r0)])) (fun t k => ?_) ?_
    · show Steps p.tables e below (T4.setTop (mkF m 20 (LS_RJsJsuuu r0 q1 ((own_fd q1 wm) * wm)) [(.int (lcmpW ((own_fd q1 wm) * wm) wst))])) _
      refine XS.ifYes X4.here hx rfl (pc0 := 20) (pc' := 33) rfl (hb hby d9_20) rfl ((if0 _ _).trans (teq ((lw_eq ((own_fd q1 wm) * wm) wst).mpr hc20_5)).1) (by decide) (by decide) ?_
      show Steps p.tables e below (T4.setTop (mkF m 33 (LS_RJsJsuuu r0 q1 ((own_fd q1 wm) * wm)) [])) _
      refine XS.aloadN X4.here hx rfl (hb hby d9_33) rfl rfl ?_
      exact k
    obtain ⟨T6, X6, e6, st6⟩ := getF X4 hx hZ hown (host := "") (Or.inl (hw _ (List.mem_of_getElem? (i := 85) rfl))) Via.refl e4 F3 (g := (mkF m 34 (LS_RJsJsuuu r0 q1 ((own_fd q1 wm) * wm)) [(.ref r0)])) rfl rfl (hb hby d9_34)
    refine own_go (B := T6.setTop (mkF m 37 (LS_RJsJsuuu r0 q1 ((own_fd q1 wm) * wm)) [(.int ad)])) (fun t k => st6 _ k) ?_
    refine own_go (B := T6.setTop (mkF m 38 (LS_RJsJsuuu r0 q1 ((own_fd q1 wm) * wm)) [(.ref r0), (.int ad)])) (fun t k => ?_) ?_
    · show Steps p.tables e below (T6.setTop (mkF m 37 (LS_RJsJsuuu r0 q1 ((own_fd q1 wm) * wm)) [(.int ad)])) _
      refine XS.aloadN X6.here hx rfl (hb hby d9_37) rfl rfl ?_
      exact k
    obtain ⟨T7, X7, e7, st7⟩ := getF X6 hx hZ hown (host := "") (Or.inl (hw _ (List.mem_of_getElem? (i := 65) rfl))) Via.refl e6 F0 (g := (mkF m 38 (LS_RJsJsuuu r0 q1 ((own_fd q1 wm) * wm)) [(.ref r0), (.int ad)])) rfl rfl (hb hby d9_38)
    refine own_go (B := T7.setTop (mkF m 41 (LS_RJsJsuuu r0 q1 ((own_fd q1 wm) * wm)) [(.ref rr), (.int ad)])) (fun t k => st7 _ k) ?_
    obtain ⟨cq8, kq8, q8a, q8b, q8c⟩ := isOf hZ e7 Er
    obtain ⟨_, _, ⟨T8, L8, k8, n8⟩, -, X8, ⟨Lc8, hQ8, l8, y8, z8⟩, st8⟩ := X7.virtualBack hx (y := (⟨"com/example/blend2/blend2/Rule", "capacity", "()I"⟩ : MethodName)) (z := (⟨"com/example/blend2/blend2/Rule", "capacity", "()I"⟩ : MethodName)) hown (mvT hZ (hw _ (List.mem_of_getElem? (i := 87) rfl))) (mvT hZ (hw _ (List.mem_of_getElem? (i := 88) rfl))) (notFace_of_selects (args := #[]) (mvT hZ (hw _ (List.mem_of_getElem? (i := 90) rfl)))) (mvT hZ (hw _ (List.mem_of_getElem? (i := 90) rfl))) (mvT hZ (hw _ (List.mem_of_getElem? (i := 89) rfl))) (by decide) (backOf (W := 1) (rmgcapacity l Z a0 hw [] rr cp h0 n0 Z0 Fc) hZ (hw _ (List.mem_of_getElem? (i := 91) rfl)) (hw _ (List.mem_of_getElem? (i := 13) rfl)) (by decide) (by decide)) q8a q8c (g := (mkF m 41 (LS_RJsJsuuu r0 q1 ((own_fd q1 wm) * wm)) [(.ref rr), (.int ad)])) rfl (by rw [hml]; rfl) (Steps.refl _) (argsL := []) (rest := [(.int ad)]) (lenOf pd___I rfl) rfl (by show 2 * 0 + _ ≤ _; exact Nat.le_of_eq rfl) (hb hby d9_41) (fun _ _ => ⟨rfl, e7, (by decide : 0 + 0 ≤ _), (by decide : 0 + 0 ≤ _)⟩)
    dsimp only [Pt.U, Pt.locs, Pt.cells, Pt.slots] at X8 l8 y8 z8 st8 hQ8
    subst l8 y8 z8
    obtain ⟨rfl, N8q, e8⟩ := hQ8
    have N8 := Fr.app N2 N8q
    refine own_go (B := T8.setTop (mkF m 44 (LS_RJsJsuuu r0 q1 ((own_fd q1 wm) * wm)) [(.int cp), (.int ad)])) (fun t k => st8.trans k) ?_
    by_cases hc44_9 : ad < cp
    · refine own_go (B := T8.setTop (mkF m 49 (LS_RJsJsuuu r0 q1 ((own_fd q1 wm) * wm)) [(.ref r0), (.ref r0)])) (fun t k => ?_) ?_
      · show Steps p.tables e below (T8.setTop (mkF m 44 (LS_RJsJsuuu r0 q1 ((own_fd q1 wm) * wm)) [(.int cp), (.int ad)])) _
        refine XS.icmpNo X8.here hx rfl (hb hby d9_44) rfl (tlt hc44_9).2.1 ?_
        show Steps p.tables e below (T8.setTop (mkF m 47 (LS_RJsJsuuu r0 q1 ((own_fd q1 wm) * wm)) [])) _
        refine XS.aloadN X8.here hx rfl (hb hby d9_47) rfl rfl ?_
        show Steps p.tables e below (T8.setTop (mkF m 48 (LS_RJsJsuuu r0 q1 ((own_fd q1 wm) * wm)) [(.ref r0)])) _
        refine XS.dup X8.here hx rfl (hb hby d9_48) rfl rfl ?_
        exact k
      obtain ⟨T10, X10, e10, st10⟩ := getF X8 hx hZ hown (host := "") (Or.inl (hw _ (List.mem_of_getElem? (i := 85) rfl))) Via.refl e8 F3 (g := (mkF m 49 (LS_RJsJsuuu r0 q1 ((own_fd q1 wm) * wm)) [(.ref r0), (.ref r0)])) rfl rfl (hb hby d9_49)
      refine own_go (B := T10.setTop (mkF m 52 (LS_RJsJsuuu r0 q1 ((own_fd q1 wm) * wm)) [(.int ad), (.ref r0)])) (fun t k => st10 _ k) ?_
      refine own_go (B := T10.setTop (mkF m 54 (LS_RJsJsuuu r0 q1 ((own_fd q1 wm) * wm)) [(.int (ad + (1 : Int32))), (.ref r0)])) (fun t k => ?_) ?_
      · show Steps p.tables e below (T10.setTop (mkF m 52 (LS_RJsJsuuu r0 q1 ((own_fd q1 wm) * wm)) [(.int ad), (.ref r0)])) _
        refine XS.iconst X10.here hx rfl (hb hby d9_52) ?_
        show Steps p.tables e below (T10.setTop (mkF m 53 (LS_RJsJsuuu r0 q1 ((own_fd q1 wm) * wm)) [(.int (1 : Int32)), (.int ad), (.ref r0)])) _
        refine XS.iadd X10.here hx rfl (hb hby d9_53) rfl ?_
        exact k
      obtain ⟨T11, h11, X11, e11, W11, st11⟩ := putF X10 hx hZ hown (host := "") (Or.inl (hw _ (List.mem_of_getElem? (i := 85) rfl))) Via.refl e10 F3 E0 (Or.inl (hw _ (List.mem_of_getElem? (i := 86) rfl))) (hw _ (List.mem_of_getElem? (i := 9) rfl)) (ty := .int) (by decide) rfl rfl (g := (mkF m 54 (LS_RJsJsuuu r0 q1 ((own_fd q1 wm) * wm)) [(.int (ad + (1 : Int32))), (.ref r0)])) rfl rfl (hb hby d9_54)
      have N11 := Fr.snoc X11 N8 g_r0
      have Fw11 := F3.same W11
      refine own_go (B := T11.setTop (mkF m 57 (LS_RJsJsuuu r0 q1 ((own_fd q1 wm) * wm)) [])) (fun t k => st11 _ k) ?_
      have F0_v12 := F0.other W11 (Or.inr (slot_ne (Or.inr (hw _ (List.mem_of_getElem? (i := 66) rfl))) (Or.inl (hw _ (List.mem_of_getElem? (i := 86) rfl))) (by decide) (t := (.object "com/example/blend2/blend2/Rule")) (t' := .int) (by decide) (by decide)))
      refine own_go (B := T11.setTop (mkF m 58 (LS_RJsJsuuu r0 q1 ((own_fd q1 wm) * wm)) [(.ref r0)])) (fun t k => ?_) ?_
      · show Steps p.tables e below (T11.setTop (mkF m 57 (LS_RJsJsuuu r0 q1 ((own_fd q1 wm) * wm)) [])) _
        refine XS.aloadN X11.here hx rfl (hb hby d9_57) rfl rfl ?_
        exact k
      obtain ⟨T13, X13, e13, st13⟩ := getF X11 hx hZ hown (host := "") (Or.inl (hw _ (List.mem_of_getElem? (i := 65) rfl))) Via.refl e11 F0_v12 (g := (mkF m 58 (LS_RJsJsuuu r0 q1 ((own_fd q1 wm) * wm)) [(.ref r0)])) rfl rfl (hb hby d9_58)
      refine own_go (B := T13.setTop (mkF m 61 (LS_RJsJsuuu r0 q1 ((own_fd q1 wm) * wm)) [(.ref rr)])) (fun t k => st13 _ k) ?_
      refine own_go (B := T13.setTop (mkF m 62 (LS_RJsJsuuu r0 q1 ((own_fd q1 wm) * wm)) [(.ref r0), (.ref rr)])) (fun t k => ?_) ?_
      · show Steps p.tables e below (T13.setTop (mkF m 61 (LS_RJsJsuuu r0 q1 ((own_fd q1 wm) * wm)) [(.ref rr)])) _
        refine XS.aloadN X13.here hx rfl (hb hby d9_61) rfl rfl ?_
        exact k
      obtain ⟨T14, X14, e14, st14⟩ := getF X13 hx hZ hown (host := "") (Or.inl (hw _ (List.mem_of_getElem? (i := 65) rfl))) Via.refl e13 F0_v12 (g := (mkF m 62 (LS_RJsJsuuu r0 q1 ((own_fd q1 wm) * wm)) [(.ref r0), (.ref rr)])) rfl rfl (hb hby d9_62)
      refine own_go (B := T14.setTop (mkF m 65 (LS_RJsJsuuu r0 q1 ((own_fd q1 wm) * wm)) [(.ref rr), (.ref rr)])) (fun t k => st14 _ k) ?_
      have Fc_v15 := Fc.other W11 (Or.inl hne)
      have Z0_v16 := Nat.le_trans Z0 (Nat.le_of_eq W11.size.symm)
      have Er_v18 := Er.wr W11
      obtain ⟨cq17, kq17, q17a, q17b, q17c⟩ := isOf hZ e14 Er_v18
      obtain ⟨_, _, ⟨T17, L17, k17, n17⟩, -, X17, ⟨Lc17, hQ17, l17, y17, z17⟩, st17⟩ := X14.virtualBack hx (y := (⟨"com/example/blend2/blend2/Rule", "capacity", "()I"⟩ : MethodName)) (z := (⟨"com/example/blend2/blend2/Rule", "capacity", "()I"⟩ : MethodName)) hown (mvT hZ (hw _ (List.mem_of_getElem? (i := 87) rfl))) (mvT hZ (hw _ (List.mem_of_getElem? (i := 88) rfl))) (notFace_of_selects (args := #[]) (mvT hZ (hw _ (List.mem_of_getElem? (i := 90) rfl)))) (mvT hZ (hw _ (List.mem_of_getElem? (i := 90) rfl))) (mvT hZ (hw _ (List.mem_of_getElem? (i := 89) rfl))) (by decide) (backOf (W := 1) (rmgcapacity l Z a0 hw [] rr cp h11 n0 Z0_v16 Fc_v15) hZ (hw _ (List.mem_of_getElem? (i := 91) rfl)) (hw _ (List.mem_of_getElem? (i := 13) rfl)) (by decide) (by decide)) q17a q17c (g := (mkF m 65 (LS_RJsJsuuu r0 q1 ((own_fd q1 wm) * wm)) [(.ref rr), (.ref rr)])) rfl (by rw [hml]; rfl) (Steps.refl _) (argsL := []) (rest := [(.ref rr)]) (lenOf pd___I rfl) rfl (by show 2 * 0 + _ ≤ _; exact Nat.le_of_eq rfl) (hb hby d9_65) (fun _ _ => ⟨rfl, e14, (by decide : 0 + 0 ≤ _), (by decide : 0 + 0 ≤ _)⟩)
      dsimp only [Pt.U, Pt.locs, Pt.cells, Pt.slots] at X17 l17 y17 z17 st17 hQ17
      subst l17 y17 z17
      obtain ⟨rfl, N17q, e17⟩ := hQ17
      have N17 := Fr.app N11 N17q
      refine own_go (B := T17.setTop (mkF m 68 (LS_RJsJsuuu r0 q1 ((own_fd q1 wm) * wm)) [(.int cp), (.ref rr)])) (fun t k => st17.trans k) ?_
      refine own_go (B := T17.setTop (mkF m 69 (LS_RJsJsuuu r0 q1 ((own_fd q1 wm) * wm)) [(.ref r0), (.int cp), (.ref rr)])) (fun t k => ?_) ?_
      · show Steps p.tables e below (T17.setTop (mkF m 68 (LS_RJsJsuuu r0 q1 ((own_fd q1 wm) * wm)) [(.int cp), (.ref rr)])) _
        refine XS.aloadN X17.here hx rfl (hb hby d9_68) rfl rfl ?_
        exact k
      obtain ⟨T19, X19, e19, st19⟩ := getF X17 hx hZ hown (host := "") (Or.inl (hw _ (List.mem_of_getElem? (i := 85) rfl))) Via.refl e17 Fw11 (g := (mkF m 69 (LS_RJsJsuuu r0 q1 ((own_fd q1 wm) * wm)) [(.ref r0), (.int cp), (.ref rr)])) rfl rfl (hb hby d9_69)
      refine own_go (B := T19.setTop (mkF m 72 (LS_RJsJsuuu r0 q1 ((own_fd q1 wm) * wm)) [(.int (ad + (1 : Int32))), (.int cp), (.ref rr)])) (fun t k => st19 _ k) ?_
      refine own_go (B := T19.setTop (mkF m 73 (LS_RJsJsuuu r0 q1 ((own_fd q1 wm) * wm)) [(.int (cp - (ad + (1 : Int32)))), (.ref rr)])) (fun t k => ?_) ?_
      · show Steps p.tables e below (T19.setTop (mkF m 72 (LS_RJsJsuuu r0 q1 ((own_fd q1 wm) * wm)) [(.int (ad + (1 : Int32))), (.int cp), (.ref rr)])) _
        refine XS.isub X19.here hx rfl (hb hby d9_72) rfl ?_
        exact k
      have S_ZERO_v20 := S_ZERO.wr W11
      have Ez_v21 := Ez.wr W11
      have Fz_v22 := Fz.other W11 (Or.inl hnz)
      obtain ⟨_, _, ⟨T23, L23, k23, n23⟩, -, X23, hs23, hg23, ⟨Lc23, hQ23, l23, y23, z23⟩, st23⟩ := callSS X19 hx (y := (⟨"com/example/blend2/blend2/Decision", "admitted", "(Lcom/example/blend2/blend2/Rule;I)Lcom/example/blend2/blend2/Decision;"⟩ : MethodName)) hown (mvT hZ (hw _ (List.mem_of_getElem? (i := 92) rfl))) (mvT hZ (hw _ (List.mem_of_getElem? (i := 93) rfl))) (mvT hZ (hw _ (List.mem_of_getElem? (i := 94) rfl))) (mvT hZ (hw _ (List.mem_of_getElem? (i := 95) rfl))) (by decide) (backOfS (W := 0) (rmad2 l Z a0 hw [] rr (cp - (ad + (1 : Int32))) wz h11 n0 Z0_v16 S_ZERO_v20 Ez_v21 Fz_v22 (own_rem1 ha1 hc44_9 hc1)) hZ (hw _ (List.mem_of_getElem? (i := 95) rfl)) (hw _ (List.mem_of_getElem? (i := 94) rfl)) (by decide) (by decide)) (g := (mkF m 73 (LS_RJsJsuuu r0 q1 ((own_fd q1 wm) * wm)) [(.int (cp - (ad + (1 : Int32)))), (.ref rr)])) rfl (by rw [hml]; rfl) (argsL := [(.ref rr), (.int (cp - (ad + (1 : Int32))))]) (rest := []) (lenOf pd__Lcom_example_blend2_blend2_Rule_I_Lcom_example_blend2_blend2_Decision_ rfl) rfl (by show 2 * 0 + _ ≤ _; exact Nat.le_of_eq rfl) (hb hby d9_73) (fun _ _ => ⟨rfl, e19, (by decide : 0 + 8 ≤ _), (by decide : 0 + 95 ≤ _)⟩)
      dsimp only [Pt.U, Pt.locs, Pt.cells, Pt.slots] at X23 l23 y23 z23 st23 hQ23 hs23 hg23
      subst l23 y23 z23
      have hk0_v24 := Nat.le_trans hk0 (Nat.le_of_eq W11.size.symm)
      have hS23 : s.Since T23.vm T23.heap.size := foldS (s := s) (vm0 := s.vm) (T := T19) (U := T23) hS0 (by rw [e19]; exact hk0_v24) hs23 hg23
      have hZ23 : Z.Warmed39 (s.setVm T23.vm).vm := State.Warmed39.trans (t := s.setVm s.vm) hZ hs23.1
      have ho23 : (s.setVm T23.vm).vm.findClass "com/example/blend2/blend2/FixedWindow" = some m.cls := by rw [show (s.setVm T23.vm).vm = T23.vm from rfl, hs23.1.alike.findClass]; exact hown
      obtain ⟨o23, rfl, N23q, K23⟩ := hQ23
      have N23 := Fr.app N17 N23q
      have hk23 : T23.heap.size ≤ T23.heap.size := Nat.le_refl _
      refine own_go (B := T23.setTop (mkF m 76 (LS_RJsJsuuu r0 q1 ((own_fd q1 wm) * wm)) [(.ref o23)])) (fun t k => st23.trans k) ?_
      refine own_go (B := T23.setTop (mkF m 110 (LS_RJsJsRuu r0 q1 ((own_fd q1 wm) * wm) o23) [(.ref o23)])) (fun t k => ?_) ?_
      · show Steps p.tables e below (T23.setTop (mkF m 76 (LS_RJsJsuuu r0 q1 ((own_fd q1 wm) * wm)) [(.ref o23)])) _
        refine XS.astore X23.here hx rfl (hb hby d9_76) rfl rfl (l' := (LS_RJsJsRuu r0 q1 ((own_fd q1 wm) * wm) o23)) rfl ?_
        show Steps p.tables e below (T23.setTop (mkF m 78 (LS_RJsJsRuu r0 q1 ((own_fd q1 wm) * wm) o23) [])) _
        refine XS.goto X23.here hx rfl (pc0 := 78) (pc' := 108) rfl (hb hby d9_78) (by decide) (by decide) ?_
        show Steps p.tables e below (T23.setTop (mkF m 108 (LS_RJsJsRuu r0 q1 ((own_fd q1 wm) * wm) o23) [])) _
        refine XS.aload X23.here hx rfl (hb hby d9_108) rfl rfl ?_
        exact k
      obtain ⟨fs, hr, hrun, hended, hRW⟩ := Stand.leaveW (s := s) (vm₁ := T23.vm) X23 hS23 hk23 (v := some (.ref o23)) (fun h => by rw [Bd.returns] at h; cases h)
      refine ⟨_, _, ?_, hrun, hended, _, _, rfl, ?_, hRW.1, hRW.2.1, hRW.2.2.1, hRW.2.2.2.mono (by decide) (by decide)⟩
      · show Steps p.tables e below (T23.setTop (mkF m 110 (LS_RJsJsRuu r0 q1 ((own_fd q1 wm) * wm) o23) [(.ref o23)])) _
        exact retOut X23 hx Bd.returns rfl (Or.inr (Or.inr (Or.inr (Or.inr ⟨rfl, rfl, rfl⟩)))) (hb hby d9_110) hr
      · show Qdec Z r0 q1 rr wz wm wst ad cp h0 n0 _ T23.heap _
        have F2_v25 := F2.other W11 (Or.inr (slot_ne (Or.inl (hw _ (List.mem_of_getElem? (i := 84) rfl))) (Or.inl (hw _ (List.mem_of_getElem? (i := 86) rfl))) (by decide) (t := .long) (t' := .int) (by decide) (by decide)))
        have F2_v26 := F2_v25.keep K23 nin0
        have K0_v27 := K0.wr W11 (Or.inl (List.mem_of_getElem? (i := 0) rfl))
        have K0_v28 := K0_v27.trans K23 all0
        have F0_v29 := F0_v12.keep K23 nin0
        have F1_v30 := F1.other W11 (Or.inr (slot_ne (Or.inr (hw _ (List.mem_of_getElem? (i := 74) rfl))) (Or.inl (hw _ (List.mem_of_getElem? (i := 86) rfl))) (by decide) (t := .long) (t' := .int) (by decide) (by decide)))
        have F1_v31 := F1_v30.keep K23 nin0
        have Fw11_v32 := Fw11.keep K23 nin0
        have Fws := F2_v26
        rw [← hc20_5] at Fws
        exact ⟨o23, (ad + (1 : Int32)), rfl, N23, K0_v28, F0_v29, F1_v31, Fws, Fw11_v32, (by have := Int32.lt_iff_toInt_lt.mp hc44_9; have e := own_inc (ad := ad) ⟨ha1.1, by omega⟩; omega)⟩
    · refine own_go (B := T8.setTop (mkF m 82 (LS_RJsJsuuu r0 q1 ((own_fd q1 wm) * wm)) [(.ref r0)])) (fun t k => ?_) ?_
      · show Steps p.tables e below (T8.setTop (mkF m 44 (LS_RJsJsuuu r0 q1 ((own_fd q1 wm) * wm)) [(.int cp), (.int ad)])) _
        refine XS.icmpYes X8.here hx rfl (pc0 := 44) (pc' := 81) rfl (hb hby d9_44) rfl (flt hc44_9).2.1 (by decide) (by decide) ?_
        show Steps p.tables e below (T8.setTop (mkF m 81 (LS_RJsJsuuu r0 q1 ((own_fd q1 wm) * wm)) [])) _
        refine XS.aloadN X8.here hx rfl (hb hby d9_81) rfl rfl ?_
        exact k
      obtain ⟨T33, X33, e33, st33⟩ := getF X8 hx hZ hown (host := "") (Or.inl (hw _ (List.mem_of_getElem? (i := 83) rfl))) Via.refl e8 F2 (g := (mkF m 82 (LS_RJsJsuuu r0 q1 ((own_fd q1 wm) * wm)) [(.ref r0)])) rfl rfl (hb hby d9_82)
      refine own_go (B := T33.setTop (mkF m 85 (LS_RJsJsuuu r0 q1 ((own_fd q1 wm) * wm)) [(.long wst)])) (fun t k => st33 _ k) ?_
      refine own_go (B := T33.setTop (mkF m 86 (LS_RJsJsuuu r0 q1 ((own_fd q1 wm) * wm)) [(.ref r0), (.long wst)])) (fun t k => ?_) ?_
      · show Steps p.tables e below (T33.setTop (mkF m 85 (LS_RJsJsuuu r0 q1 ((own_fd q1 wm) * wm)) [(.long wst)])) _
        refine XS.aloadN X33.here hx rfl (hb hby d9_85) rfl rfl ?_
        exact k
      obtain ⟨T34, X34, e34, st34⟩ := getF X33 hx hZ hown (host := "") (Or.inl (hw _ (List.mem_of_getElem? (i := 73) rfl))) Via.refl e33 F1 (g := (mkF m 86 (LS_RJsJsuuu r0 q1 ((own_fd q1 wm) * wm)) [(.ref r0), (.long wst)])) rfl rfl (hb hby d9_86)
      refine own_go (B := T34.setTop (mkF m 89 (LS_RJsJsuuu r0 q1 ((own_fd q1 wm) * wm)) [(.long wm), (.long wst)])) (fun t k => st34 _ k) ?_
      refine own_go (B := T34.setTop (mkF m 93 (LS_RJsJsuJs r0 q1 ((own_fd q1 wm) * wm) (wst + wm)) [(.ref r0)])) (fun t k => ?_) ?_
      · show Steps p.tables e below (T34.setTop (mkF m 89 (LS_RJsJsuuu r0 q1 ((own_fd q1 wm) * wm)) [(.long wm), (.long wst)])) _
        refine XS.ladd X34.here hx rfl (hb hby d9_89) rfl ?_
        show Steps p.tables e below (T34.setTop (mkF m 90 (LS_RJsJsuuu r0 q1 ((own_fd q1 wm) * wm)) [(.long (wst + wm))])) _
        refine XS.lstore X34.here hx rfl (hb hby d9_90) rfl (l' := (LS_RJsJsuJs r0 q1 ((own_fd q1 wm) * wm) (wst + wm))) rfl ?_
        show Steps p.tables e below (T34.setTop (mkF m 92 (LS_RJsJsuJs r0 q1 ((own_fd q1 wm) * wm) (wst + wm)) [])) _
        refine XS.aloadN X34.here hx rfl (hb hby d9_92) rfl rfl ?_
        exact k
      obtain ⟨T35, X35, e35, st35⟩ := getF X34 hx hZ hown (host := "") (Or.inl (hw _ (List.mem_of_getElem? (i := 65) rfl))) Via.refl e34 F0 (g := (mkF m 93 (LS_RJsJsuJs r0 q1 ((own_fd q1 wm) * wm) (wst + wm)) [(.ref r0)])) rfl rfl (hb hby d9_93)
      refine own_go (B := T35.setTop (mkF m 96 (LS_RJsJsuJs r0 q1 ((own_fd q1 wm) * wm) (wst + wm)) [(.ref rr)])) (fun t k => st35 _ k) ?_
      refine own_go (B := T35.setTop (mkF m 100 (LS_RJsJsuJs r0 q1 ((own_fd q1 wm) * wm) (wst + wm)) [(.long ((wst + wm) - q1)), (.ref rr)])) (fun t k => ?_) ?_
      · show Steps p.tables e below (T35.setTop (mkF m 96 (LS_RJsJsuJs r0 q1 ((own_fd q1 wm) * wm) (wst + wm)) [(.ref rr)])) _
        refine XS.lload X35.here hx rfl (hb hby d9_96) rfl ?_
        show Steps p.tables e below (T35.setTop (mkF m 98 (LS_RJsJsuJs r0 q1 ((own_fd q1 wm) * wm) (wst + wm)) [(.long (wst + wm)), (.ref rr)])) _
        refine XS.lloadN X35.here hx rfl (hb hby d9_98) rfl ?_
        show Steps p.tables e below (T35.setTop (mkF m 99 (LS_RJsJsuJs r0 q1 ((own_fd q1 wm) * wm) (wst + wm)) [(.long q1), (.long (wst + wm)), (.ref rr)])) _
        refine XS.lsub X35.here hx rfl (hb hby d9_99) rfl ?_
        exact k
      obtain ⟨_, _, ⟨T36, L36, k36, n36⟩, -, X36, ⟨Lc36, hQ36, l36, y36, z36⟩, st36⟩ := Jvm.LawKit.callS X35 hx (y := (⟨"java/time/Duration", "ofMillis", "(J)Ljava/time/Duration;"⟩ : MethodName)) hown (mvT hZ (hw _ (List.mem_of_getElem? (i := 155) rfl))) (mvT hZ (hw _ (List.mem_of_getElem? (i := 156) rfl))) (mvT hZ (hw _ (List.mem_of_getElem? (i := 97) rfl))) (mvT hZ (hw _ (List.mem_of_getElem? (i := 157) rfl))) (by decide) (backOf (W := 1) (rmdum l Z a0 hw [] ((wst + wm) - q1) h0 n0 Z0 (own_leftE hc20_5 hw1 ht1 ht2).1 (own_leftE hc20_5 hw1 ht1 ht2).2) hZ (hw _ (List.mem_of_getElem? (i := 157) rfl)) (hw _ (List.mem_of_getElem? (i := 97) rfl)) (by decide) (by decide)) (g := (mkF m 100 (LS_RJsJsuJs r0 q1 ((own_fd q1 wm) * wm) (wst + wm)) [(.long ((wst + wm) - q1)), (.ref rr)])) rfl (by rw [hml]; rfl) (argsL := [(.long ((wst + wm) - q1))]) (rest := [(.ref rr)]) (lenOf pd__J_Ljava_time_Duration_ rfl) rfl (by show 2 * 0 + _ ≤ _; exact Nat.le_of_eq rfl) (hb hby d9_100) (fun _ _ => ⟨rfl, e35, (by decide : 0 + 1 ≤ _), (by decide : 0 + 2 ≤ _)⟩)
      dsimp only [Pt.U, Pt.locs, Pt.cells, Pt.slots] at X36 l36 y36 z36 st36 hQ36
      subst l36 y36 z36
      obtain ⟨o36, rfl, N36q, hfr36, K36, Ef36, Fs36⟩ := hQ36
      have N36 := Fr.app N8 N36q
      have g_o36 : n0 ≤ o36 := Nat.le_trans Z0 hfr36
      have sz_o36 : h0.size ≤ o36 := Nat.le_trans K0.1 hfr36
      refine own_go (B := T36.setTop (mkF m 103 (LS_RJsJsuJs r0 q1 ((own_fd q1 wm) * wm) (wst + wm)) [(.ref o36), (.ref rr)])) (fun t k => st36 _ k) ?_
      have Z0_v37 := Nat.le_trans Z0 K36.1
      have S_ZERO_v38 := own_sta_keep S_ZERO K36 all0
      have Ez_v39 := Ez.keep K36
      have Fz_v40 := Fz.keep K36 nin0
      obtain ⟨_, _, ⟨T41, L41, k41, n41⟩, -, X41, hs41, hg41, ⟨Lc41, hQ41, l41, y41, z41⟩, st41⟩ := callSS X36 hx (y := (⟨"com/example/blend2/blend2/Decision", "refused", "(Lcom/example/blend2/blend2/Rule;Ljava/time/Duration;)Lcom/example/blend2/blend2/Decision;"⟩ : MethodName)) hown (mvT hZ (hw _ (List.mem_of_getElem? (i := 172) rfl))) (mvT hZ (hw _ (List.mem_of_getElem? (i := 173) rfl))) (mvT hZ (hw _ (List.mem_of_getElem? (i := 94) rfl))) (mvT hZ (hw _ (List.mem_of_getElem? (i := 174) rfl))) (by decide) (backOfS (W := 0) (rmref l Z a0 hw [] rr o36 wz (((wst + wm) - q1) / (1000 : Int64)) T36.heap n0 Z0_v37 S_ZERO_v38 Ez_v39 Fz_v40 Ef36 Fs36 (own_ms ((own_leftE hc20_5 hw1 ht1 ht2)).1 ((own_leftE hc20_5 hw1 ht1 ht2)).2).2.2) hZ (hw _ (List.mem_of_getElem? (i := 174) rfl)) (hw _ (List.mem_of_getElem? (i := 94) rfl)) (by decide) (by decide)) (g := (mkF m 103 (LS_RJsJsuJs r0 q1 ((own_fd q1 wm) * wm) (wst + wm)) [(.ref o36), (.ref rr)])) rfl (by rw [hml]; rfl) (argsL := [(.ref rr), (.ref o36)]) (rest := []) (lenOf pd__Lcom_example_blend2_blend2_Rule_Ljava_time_Duration__Lcom_example_blend2_blend2_Decision_ rfl) rfl (by show 2 * 0 + _ ≤ _; exact Nat.le_of_eq rfl) (hb hby d9_103) (fun _ _ => ⟨rfl, rfl, (by decide : 1 + 8 ≤ _), (by decide : 2 + 95 ≤ _)⟩)
      dsimp only [Pt.U, Pt.locs, Pt.cells, Pt.slots] at X41 l41 y41 z41 st41 hQ41 hs41 hg41
      subst l41 y41 z41
      have hk0_v42 := Nat.le_trans hk0 K36.1
      have hS41 : s.Since T41.vm T41.heap.size := foldS (s := s) (vm0 := s.vm) (T := T36) (U := T41) hS0 hk0_v42 hs41 hg41
      have hZ41 : Z.Warmed39 (s.setVm T41.vm).vm := State.Warmed39.trans (t := s.setVm s.vm) hZ hs41.1
      have ho41 : (s.setVm T41.vm).vm.findClass "com/example/blend2/blend2/FixedWindow" = some m.cls := by rw [show (s.setVm T41.vm).vm = T41.vm from rfl, hs41.1.alike.findClass]; exact hown
      obtain ⟨o41, rfl, N41q, K41⟩ := hQ41
      have N41 := Fr.app N36 N41q
      have hk41 : T41.heap.size ≤ T41.heap.size := Nat.le_refl _
      refine own_go (B := T41.setTop (mkF m 106 (LS_RJsJsuJs r0 q1 ((own_fd q1 wm) * wm) (wst + wm)) [(.ref o41)])) (fun t k => st41.trans k) ?_
      refine own_go (B := T41.setTop (mkF m 110 (LS_RJsJsRJs r0 q1 ((own_fd q1 wm) * wm) o41 (wst + wm)) [(.ref o41)])) (fun t k => ?_) ?_
      · show Steps p.tables e below (T41.setTop (mkF m 106 (LS_RJsJsuJs r0 q1 ((own_fd q1 wm) * wm) (wst + wm)) [(.ref o41)])) _
        refine XS.astore X41.here hx rfl (hb hby d9_106) rfl rfl (l' := (LS_RJsJsRJs r0 q1 ((own_fd q1 wm) * wm) o41 (wst + wm))) rfl ?_
        show Steps p.tables e below (T41.setTop (mkF m 108 (LS_RJsJsRJs r0 q1 ((own_fd q1 wm) * wm) o41 (wst + wm)) [])) _
        refine XS.aload X41.here hx rfl (hb hby d9_108) rfl rfl ?_
        exact k
      obtain ⟨fs, hr, hrun, hended, hRW⟩ := Stand.leaveW (s := s) (vm₁ := T41.vm) X41 hS41 hk41 (v := some (.ref o41)) (fun h => by rw [Bd.returns] at h; cases h)
      refine ⟨_, _, ?_, hrun, hended, _, _, rfl, ?_, hRW.1, hRW.2.1, hRW.2.2.1, hRW.2.2.2.mono (by decide) (by decide)⟩
      · show Steps p.tables e below (T41.setTop (mkF m 110 (LS_RJsJsRJs r0 q1 ((own_fd q1 wm) * wm) o41 (wst + wm)) [(.ref o41)])) _
        exact retOut X41 hx Bd.returns rfl (Or.inr (Or.inr (Or.inr (Or.inr ⟨rfl, rfl, rfl⟩)))) (hb hby d9_110) hr
      · show Qdec Z r0 q1 rr wz wm wst ad cp h0 n0 _ T41.heap _
        have F2_v43 := F2.keep K36 nin0
        have F2_v44 := F2_v43.keep K41 nin0
        have K0_v45 := K0.trans K36 all0
        have K0_v46 := K0_v45.trans K41 all0
        have F0_v47 := F0.keep K36 nin0
        have F0_v48 := F0_v47.keep K41 nin0
        have F1_v49 := F1.keep K36 nin0
        have F1_v50 := F1_v49.keep K41 nin0
        have F3_v51 := F3.keep K36 nin0
        have F3_v52 := F3_v51.keep K41 nin0
        have Fws := F2_v44
        rw [← hc20_5] at Fws
        exact ⟨o41, ad, rfl, N41, K0_v46, F0_v48, F1_v50, Fws, F3_v52, ⟨by have := Int32.not_lt.mp hc44_9; rw [Int32.le_iff_toInt_le] at this; omega, ha1.2⟩⟩
  · refine own_go (B := T4.setTop (mkF m 25 (LS_RJsJsuuu r0 q1 ((own_fd q1 wm) * wm)) [(.long ((own_fd q1 wm) * wm)), (.ref r0)])) (fun t k => ?_) ?_
    · show Steps p.tables e below (T4.setTop (mkF m 20 (LS_RJsJsuuu r0 q1 ((own_fd q1 wm) * wm)) [(.int (lcmpW ((own_fd q1 wm) * wm) wst))])) _
      refine XS.ifNo X4.here hx rfl (hb hby d9_20) rfl ((if0 _ _).trans (feq (fun q => hc20_5 ((lw_eq ((own_fd q1 wm) * wm) wst).mp q))).1) ?_
      show Steps p.tables e below (T4.setTop (mkF m 23 (LS_RJsJsuuu r0 q1 ((own_fd q1 wm) * wm)) [])) _
      refine XS.aloadN X4.here hx rfl (hb hby d9_23) rfl rfl ?_
      show Steps p.tables e below (T4.setTop (mkF m 24 (LS_RJsJsuuu r0 q1 ((own_fd q1 wm) * wm)) [(.ref r0)])) _
      refine XS.lloadN X4.here hx rfl (hb hby d9_24) rfl ?_
      exact k
    obtain ⟨T53, h53, X53, e53, W53, st53⟩ := putF X4 hx hZ hown (host := "") (Or.inl (hw _ (List.mem_of_getElem? (i := 83) rfl))) Via.refl e4 F2 E0 (Or.inl (hw _ (List.mem_of_getElem? (i := 84) rfl))) (hw _ (List.mem_of_getElem? (i := 9) rfl)) (ty := .long) (by decide) rfl rfl (g := (mkF m 25 (LS_RJsJsuuu r0 q1 ((own_fd q1 wm) * wm)) [(.long ((own_fd q1 wm) * wm)), (.ref r0)])) rfl rfl (hb hby d9_25)
    have N53 := Fr.snoc X53 N2 g_r0
    have Fw53 := F2.same W53
    refine own_go (B := T53.setTop (mkF m 28 (LS_RJsJsuuu r0 q1 ((own_fd q1 wm) * wm)) [])) (fun t k => st53 _ k) ?_
    refine own_go (B := T53.setTop (mkF m 30 (LS_RJsJsuuu r0 q1 ((own_fd q1 wm) * wm)) [(.int (0 : Int32)), (.ref r0)])) (fun t k => ?_) ?_
    · show Steps p.tables e below (T53.setTop (mkF m 28 (LS_RJsJsuuu r0 q1 ((own_fd q1 wm) * wm)) [])) _
      refine XS.aloadN X53.here hx rfl (hb hby d9_28) rfl rfl ?_
      show Steps p.tables e below (T53.setTop (mkF m 29 (LS_RJsJsuuu r0 q1 ((own_fd q1 wm) * wm)) [(.ref r0)])) _
      refine XS.iconst X53.here hx rfl (hb hby d9_29) ?_
      exact k
    have E0_v54 := E0.wr W53
    have F3_v55 := F3.other W53 (Or.inr (slot_ne (Or.inl (hw _ (List.mem_of_getElem? (i := 86) rfl))) (Or.inl (hw _ (List.mem_of_getElem? (i := 84) rfl))) (by decide) (t := .int) (t' := .long) (by decide) (by decide)))
    obtain ⟨T56, h56, X56, e56, W56, st56⟩ := putF X53 hx hZ hown (host := "") (Or.inl (hw _ (List.mem_of_getElem? (i := 85) rfl))) Via.refl e53 F3_v55 E0_v54 (Or.inl (hw _ (List.mem_of_getElem? (i := 86) rfl))) (hw _ (List.mem_of_getElem? (i := 9) rfl)) (ty := .int) (by decide) rfl rfl (g := (mkF m 30 (LS_RJsJsuuu r0 q1 ((own_fd q1 wm) * wm)) [(.int (0 : Int32)), (.ref r0)])) rfl rfl (hb hby d9_30)
    have N56 := Fr.snoc X56 N53 g_r0
    have Fw56 := F3_v55.same W56
    refine own_go (B := T56.setTop (mkF m 33 (LS_RJsJsuuu r0 q1 ((own_fd q1 wm) * wm)) [])) (fun t k => st56 _ k) ?_
    refine own_go (B := T56.setTop (mkF m 34 (LS_RJsJsuuu r0 q1 ((own_fd q1 wm) * wm)) [(.ref r0)])) (fun t k => ?_) ?_
    · show Steps p.tables e below (T56.setTop (mkF m 33 (LS_RJsJsuuu r0 q1 ((own_fd q1 wm) * wm)) [])) _
      refine XS.aloadN X56.here hx rfl (hb hby d9_33) rfl rfl ?_
      exact k
    obtain ⟨T57, X57, e57, st57⟩ := getF X56 hx hZ hown (host := "") (Or.inl (hw _ (List.mem_of_getElem? (i := 85) rfl))) Via.refl e56 Fw56 (g := (mkF m 34 (LS_RJsJsuuu r0 q1 ((own_fd q1 wm) * wm)) [(.ref r0)])) rfl rfl (hb hby d9_34)
    refine own_go (B := T57.setTop (mkF m 37 (LS_RJsJsuuu r0 q1 ((own_fd q1 wm) * wm)) [(.int (0 : Int32))])) (fun t k => st57 _ k) ?_
    have F0_v58 := F0.other W53 (Or.inr (slot_ne (Or.inr (hw _ (List.mem_of_getElem? (i := 66) rfl))) (Or.inl (hw _ (List.mem_of_getElem? (i := 84) rfl))) (by decide) (t := (.object "com/example/blend2/blend2/Rule")) (t' := .long) (by decide) (by decide)))
    have F0_v59 := F0_v58.other W56 (Or.inr (slot_ne (Or.inr (hw _ (List.mem_of_getElem? (i := 66) rfl))) (Or.inl (hw _ (List.mem_of_getElem? (i := 86) rfl))) (by decide) (t := (.object "com/example/blend2/blend2/Rule")) (t' := .int) (by decide) (by decide)))
    refine own_go (B := T57.setTop (mkF m 38 (LS_RJsJsuuu r0 q1 ((own_fd q1 wm) * wm)) [(.ref r0), (.int (0 : Int32))])) (fun t k => ?_) ?_
    · show Steps p.tables e below (T57.setTop (mkF m 37 (LS_RJsJsuuu r0 q1 ((own_fd q1 wm) * wm)) [(.int (0 : Int32))])) _
      refine XS.aloadN X57.here hx rfl (hb hby d9_37) rfl rfl ?_
      exact k
    obtain ⟨T60, X60, e60, st60⟩ := getF X57 hx hZ hown (host := "") (Or.inl (hw _ (List.mem_of_getElem? (i := 65) rfl))) Via.refl e57 F0_v59 (g := (mkF m 38 (LS_RJsJsuuu r0 q1 ((own_fd q1 wm) * wm)) [(.ref r0), (.int (0 : Int32))])) rfl rfl (hb hby d9_38)
    refine own_go (B := T60.setTop (mkF m 41 (LS_RJsJsuuu r0 q1 ((own_fd q1 wm) * wm)) [(.ref rr), (.int (0 : Int32))])) (fun t k => st60 _ k) ?_
    have Fc_v61 := Fc.other W53 (Or.inl hne)
    have Fc_v62 := Fc_v61.other W56 (Or.inl hne)
    have Z0_v63 := Nat.le_trans Z0 (Nat.le_of_eq W53.size.symm)
    have Z0_v64 := Nat.le_trans Z0_v63 (Nat.le_of_eq W56.size.symm)
    have Er_v66 := Er.wr W53
    have Er_v67 := Er_v66.wr W56
    obtain ⟨cq65, kq65, q65a, q65b, q65c⟩ := isOf hZ e60 Er_v67
    obtain ⟨_, _, ⟨T65, L65, k65, n65⟩, -, X65, ⟨Lc65, hQ65, l65, y65, z65⟩, st65⟩ := X60.virtualBack hx (y := (⟨"com/example/blend2/blend2/Rule", "capacity", "()I"⟩ : MethodName)) (z := (⟨"com/example/blend2/blend2/Rule", "capacity", "()I"⟩ : MethodName)) hown (mvT hZ (hw _ (List.mem_of_getElem? (i := 87) rfl))) (mvT hZ (hw _ (List.mem_of_getElem? (i := 88) rfl))) (notFace_of_selects (args := #[]) (mvT hZ (hw _ (List.mem_of_getElem? (i := 90) rfl)))) (mvT hZ (hw _ (List.mem_of_getElem? (i := 90) rfl))) (mvT hZ (hw _ (List.mem_of_getElem? (i := 89) rfl))) (by decide) (backOf (W := 1) (rmgcapacity l Z a0 hw [] rr cp h56 n0 Z0_v64 Fc_v62) hZ (hw _ (List.mem_of_getElem? (i := 91) rfl)) (hw _ (List.mem_of_getElem? (i := 13) rfl)) (by decide) (by decide)) q65a q65c (g := (mkF m 41 (LS_RJsJsuuu r0 q1 ((own_fd q1 wm) * wm)) [(.ref rr), (.int (0 : Int32))])) rfl (by rw [hml]; rfl) (Steps.refl _) (argsL := []) (rest := [(.int (0 : Int32))]) (lenOf pd___I rfl) rfl (by show 2 * 0 + _ ≤ _; exact Nat.le_of_eq rfl) (hb hby d9_41) (fun _ _ => ⟨rfl, e60, (by decide : 0 + 0 ≤ _), (by decide : 0 + 0 ≤ _)⟩)
    dsimp only [Pt.U, Pt.locs, Pt.cells, Pt.slots] at X65 l65 y65 z65 st65 hQ65
    subst l65 y65 z65
    obtain ⟨rfl, N65q, e65⟩ := hQ65
    have N65 := Fr.app N56 N65q
    refine own_go (B := T65.setTop (mkF m 44 (LS_RJsJsuuu r0 q1 ((own_fd q1 wm) * wm)) [(.int cp), (.int (0 : Int32))])) (fun t k => st65.trans k) ?_
    refine own_go (B := T65.setTop (mkF m 49 (LS_RJsJsuuu r0 q1 ((own_fd q1 wm) * wm)) [(.ref r0), (.ref r0)])) (fun t k => ?_) ?_
    · show Steps p.tables e below (T65.setTop (mkF m 44 (LS_RJsJsuuu r0 q1 ((own_fd q1 wm) * wm)) [(.int cp), (.int (0 : Int32))])) _
      refine XS.icmpNo X65.here hx rfl (hb hby d9_44) rfl (tlt (own_cp hc1)).2.1 ?_
      show Steps p.tables e below (T65.setTop (mkF m 47 (LS_RJsJsuuu r0 q1 ((own_fd q1 wm) * wm)) [])) _
      refine XS.aloadN X65.here hx rfl (hb hby d9_47) rfl rfl ?_
      show Steps p.tables e below (T65.setTop (mkF m 48 (LS_RJsJsuuu r0 q1 ((own_fd q1 wm) * wm)) [(.ref r0)])) _
      refine XS.dup X65.here hx rfl (hb hby d9_48) rfl rfl ?_
      exact k
    obtain ⟨T68, X68, e68, st68⟩ := getF X65 hx hZ hown (host := "") (Or.inl (hw _ (List.mem_of_getElem? (i := 85) rfl))) Via.refl e65 Fw56 (g := (mkF m 49 (LS_RJsJsuuu r0 q1 ((own_fd q1 wm) * wm)) [(.ref r0), (.ref r0)])) rfl rfl (hb hby d9_49)
    refine own_go (B := T68.setTop (mkF m 52 (LS_RJsJsuuu r0 q1 ((own_fd q1 wm) * wm)) [(.int (0 : Int32)), (.ref r0)])) (fun t k => st68 _ k) ?_
    refine own_go (B := T68.setTop (mkF m 54 (LS_RJsJsuuu r0 q1 ((own_fd q1 wm) * wm)) [(.int ((0 : Int32) + (1 : Int32))), (.ref r0)])) (fun t k => ?_) ?_
    · show Steps p.tables e below (T68.setTop (mkF m 52 (LS_RJsJsuuu r0 q1 ((own_fd q1 wm) * wm)) [(.int (0 : Int32)), (.ref r0)])) _
      refine XS.iconst X68.here hx rfl (hb hby d9_52) ?_
      show Steps p.tables e below (T68.setTop (mkF m 53 (LS_RJsJsuuu r0 q1 ((own_fd q1 wm) * wm)) [(.int (1 : Int32)), (.int (0 : Int32)), (.ref r0)])) _
      refine XS.iadd X68.here hx rfl (hb hby d9_53) rfl ?_
      exact k
    have E0_v69 := E0_v54.wr W56
    obtain ⟨T70, h70, X70, e70, W70, st70⟩ := putF X68 hx hZ hown (host := "") (Or.inl (hw _ (List.mem_of_getElem? (i := 85) rfl))) Via.refl e68 Fw56 E0_v69 (Or.inl (hw _ (List.mem_of_getElem? (i := 86) rfl))) (hw _ (List.mem_of_getElem? (i := 9) rfl)) (ty := .int) (by decide) rfl rfl (g := (mkF m 54 (LS_RJsJsuuu r0 q1 ((own_fd q1 wm) * wm)) [(.int ((0 : Int32) + (1 : Int32))), (.ref r0)])) rfl rfl (hb hby d9_54)
    have N70 := Fr.snoc X70 N65 g_r0
    have Fw70 := Fw56.same W70
    refine own_go (B := T70.setTop (mkF m 57 (LS_RJsJsuuu r0 q1 ((own_fd q1 wm) * wm)) [])) (fun t k => st70 _ k) ?_
    have F0_v71 := F0_v59.other W70 (Or.inr (slot_ne (Or.inr (hw _ (List.mem_of_getElem? (i := 66) rfl))) (Or.inl (hw _ (List.mem_of_getElem? (i := 86) rfl))) (by decide) (t := (.object "com/example/blend2/blend2/Rule")) (t' := .int) (by decide) (by decide)))
    refine own_go (B := T70.setTop (mkF m 58 (LS_RJsJsuuu r0 q1 ((own_fd q1 wm) * wm)) [(.ref r0)])) (fun t k => ?_) ?_
    · show Steps p.tables e below (T70.setTop (mkF m 57 (LS_RJsJsuuu r0 q1 ((own_fd q1 wm) * wm)) [])) _
      refine XS.aloadN X70.here hx rfl (hb hby d9_57) rfl rfl ?_
      exact k
    obtain ⟨T72, X72, e72, st72⟩ := getF X70 hx hZ hown (host := "") (Or.inl (hw _ (List.mem_of_getElem? (i := 65) rfl))) Via.refl e70 F0_v71 (g := (mkF m 58 (LS_RJsJsuuu r0 q1 ((own_fd q1 wm) * wm)) [(.ref r0)])) rfl rfl (hb hby d9_58)
    refine own_go (B := T72.setTop (mkF m 61 (LS_RJsJsuuu r0 q1 ((own_fd q1 wm) * wm)) [(.ref rr)])) (fun t k => st72 _ k) ?_
    refine own_go (B := T72.setTop (mkF m 62 (LS_RJsJsuuu r0 q1 ((own_fd q1 wm) * wm)) [(.ref r0), (.ref rr)])) (fun t k => ?_) ?_
    · show Steps p.tables e below (T72.setTop (mkF m 61 (LS_RJsJsuuu r0 q1 ((own_fd q1 wm) * wm)) [(.ref rr)])) _
      refine XS.aloadN X72.here hx rfl (hb hby d9_61) rfl rfl ?_
      exact k
    obtain ⟨T73, X73, e73, st73⟩ := getF X72 hx hZ hown (host := "") (Or.inl (hw _ (List.mem_of_getElem? (i := 65) rfl))) Via.refl e72 F0_v71 (g := (mkF m 62 (LS_RJsJsuuu r0 q1 ((own_fd q1 wm) * wm)) [(.ref r0), (.ref rr)])) rfl rfl (hb hby d9_62)
    refine own_go (B := T73.setTop (mkF m 65 (LS_RJsJsuuu r0 q1 ((own_fd q1 wm) * wm)) [(.ref rr), (.ref rr)])) (fun t k => st73 _ k) ?_
    have Fc_v74 := Fc_v62.other W70 (Or.inl hne)
    have Z0_v75 := Nat.le_trans Z0_v64 (Nat.le_of_eq W70.size.symm)
    have Er_v77 := Er_v67.wr W70
    obtain ⟨cq76, kq76, q76a, q76b, q76c⟩ := isOf hZ e73 Er_v77
    obtain ⟨_, _, ⟨T76, L76, k76, n76⟩, -, X76, ⟨Lc76, hQ76, l76, y76, z76⟩, st76⟩ := X73.virtualBack hx (y := (⟨"com/example/blend2/blend2/Rule", "capacity", "()I"⟩ : MethodName)) (z := (⟨"com/example/blend2/blend2/Rule", "capacity", "()I"⟩ : MethodName)) hown (mvT hZ (hw _ (List.mem_of_getElem? (i := 87) rfl))) (mvT hZ (hw _ (List.mem_of_getElem? (i := 88) rfl))) (notFace_of_selects (args := #[]) (mvT hZ (hw _ (List.mem_of_getElem? (i := 90) rfl)))) (mvT hZ (hw _ (List.mem_of_getElem? (i := 90) rfl))) (mvT hZ (hw _ (List.mem_of_getElem? (i := 89) rfl))) (by decide) (backOf (W := 1) (rmgcapacity l Z a0 hw [] rr cp h70 n0 Z0_v75 Fc_v74) hZ (hw _ (List.mem_of_getElem? (i := 91) rfl)) (hw _ (List.mem_of_getElem? (i := 13) rfl)) (by decide) (by decide)) q76a q76c (g := (mkF m 65 (LS_RJsJsuuu r0 q1 ((own_fd q1 wm) * wm)) [(.ref rr), (.ref rr)])) rfl (by rw [hml]; rfl) (Steps.refl _) (argsL := []) (rest := [(.ref rr)]) (lenOf pd___I rfl) rfl (by show 2 * 0 + _ ≤ _; exact Nat.le_of_eq rfl) (hb hby d9_65) (fun _ _ => ⟨rfl, e73, (by decide : 0 + 0 ≤ _), (by decide : 0 + 0 ≤ _)⟩)
    dsimp only [Pt.U, Pt.locs, Pt.cells, Pt.slots] at X76 l76 y76 z76 st76 hQ76
    subst l76 y76 z76
    obtain ⟨rfl, N76q, e76⟩ := hQ76
    have N76 := Fr.app N70 N76q
    refine own_go (B := T76.setTop (mkF m 68 (LS_RJsJsuuu r0 q1 ((own_fd q1 wm) * wm)) [(.int cp), (.ref rr)])) (fun t k => st76.trans k) ?_
    refine own_go (B := T76.setTop (mkF m 69 (LS_RJsJsuuu r0 q1 ((own_fd q1 wm) * wm)) [(.ref r0), (.int cp), (.ref rr)])) (fun t k => ?_) ?_
    · show Steps p.tables e below (T76.setTop (mkF m 68 (LS_RJsJsuuu r0 q1 ((own_fd q1 wm) * wm)) [(.int cp), (.ref rr)])) _
      refine XS.aloadN X76.here hx rfl (hb hby d9_68) rfl rfl ?_
      exact k
    obtain ⟨T78, X78, e78, st78⟩ := getF X76 hx hZ hown (host := "") (Or.inl (hw _ (List.mem_of_getElem? (i := 85) rfl))) Via.refl e76 Fw70 (g := (mkF m 69 (LS_RJsJsuuu r0 q1 ((own_fd q1 wm) * wm)) [(.ref r0), (.int cp), (.ref rr)])) rfl rfl (hb hby d9_69)
    refine own_go (B := T78.setTop (mkF m 72 (LS_RJsJsuuu r0 q1 ((own_fd q1 wm) * wm)) [(.int ((0 : Int32) + (1 : Int32))), (.int cp), (.ref rr)])) (fun t k => st78 _ k) ?_
    refine own_go (B := T78.setTop (mkF m 73 (LS_RJsJsuuu r0 q1 ((own_fd q1 wm) * wm)) [(.int (cp - ((0 : Int32) + (1 : Int32)))), (.ref rr)])) (fun t k => ?_) ?_
    · show Steps p.tables e below (T78.setTop (mkF m 72 (LS_RJsJsuuu r0 q1 ((own_fd q1 wm) * wm)) [(.int ((0 : Int32) + (1 : Int32))), (.int cp), (.ref rr)])) _
      refine XS.isub X78.here hx rfl (hb hby d9_72) rfl ?_
      exact k
    have S_ZERO_v79 := S_ZERO.wr W53
    have S_ZERO_v80 := S_ZERO_v79.wr W56
    have S_ZERO_v81 := S_ZERO_v80.wr W70
    have Ez_v82 := Ez.wr W53
    have Ez_v83 := Ez_v82.wr W56
    have Ez_v84 := Ez_v83.wr W70
    have Fz_v85 := Fz.other W53 (Or.inl hnz)
    have Fz_v86 := Fz_v85.other W56 (Or.inl hnz)
    have Fz_v87 := Fz_v86.other W70 (Or.inl hnz)
    obtain ⟨_, _, ⟨T88, L88, k88, n88⟩, -, X88, hs88, hg88, ⟨Lc88, hQ88, l88, y88, z88⟩, st88⟩ := callSS X78 hx (y := (⟨"com/example/blend2/blend2/Decision", "admitted", "(Lcom/example/blend2/blend2/Rule;I)Lcom/example/blend2/blend2/Decision;"⟩ : MethodName)) hown (mvT hZ (hw _ (List.mem_of_getElem? (i := 92) rfl))) (mvT hZ (hw _ (List.mem_of_getElem? (i := 93) rfl))) (mvT hZ (hw _ (List.mem_of_getElem? (i := 94) rfl))) (mvT hZ (hw _ (List.mem_of_getElem? (i := 95) rfl))) (by decide) (backOfS (W := 0) (rmad2 l Z a0 hw [] rr (cp - ((0 : Int32) + (1 : Int32))) wz h70 n0 Z0_v75 S_ZERO_v81 Ez_v84 Fz_v87 (own_rem0 hc1)) hZ (hw _ (List.mem_of_getElem? (i := 95) rfl)) (hw _ (List.mem_of_getElem? (i := 94) rfl)) (by decide) (by decide)) (g := (mkF m 73 (LS_RJsJsuuu r0 q1 ((own_fd q1 wm) * wm)) [(.int (cp - ((0 : Int32) + (1 : Int32)))), (.ref rr)])) rfl (by rw [hml]; rfl) (argsL := [(.ref rr), (.int (cp - ((0 : Int32) + (1 : Int32))))]) (rest := []) (lenOf pd__Lcom_example_blend2_blend2_Rule_I_Lcom_example_blend2_blend2_Decision_ rfl) rfl (by show 2 * 0 + _ ≤ _; exact Nat.le_of_eq rfl) (hb hby d9_73) (fun _ _ => ⟨rfl, e78, (by decide : 0 + 8 ≤ _), (by decide : 0 + 95 ≤ _)⟩)
    dsimp only [Pt.U, Pt.locs, Pt.cells, Pt.slots] at X88 l88 y88 z88 st88 hQ88 hs88 hg88
    subst l88 y88 z88
    have hk0_v89 := Nat.le_trans hk0 (Nat.le_of_eq W53.size.symm)
    have hk0_v90 := Nat.le_trans hk0_v89 (Nat.le_of_eq W56.size.symm)
    have hk0_v91 := Nat.le_trans hk0_v90 (Nat.le_of_eq W70.size.symm)
    have hS88 : s.Since T88.vm T88.heap.size := foldS (s := s) (vm0 := s.vm) (T := T78) (U := T88) hS0 (by rw [e78]; exact hk0_v91) hs88 hg88
    have hZ88 : Z.Warmed39 (s.setVm T88.vm).vm := State.Warmed39.trans (t := s.setVm s.vm) hZ hs88.1
    have ho88 : (s.setVm T88.vm).vm.findClass "com/example/blend2/blend2/FixedWindow" = some m.cls := by rw [show (s.setVm T88.vm).vm = T88.vm from rfl, hs88.1.alike.findClass]; exact hown
    obtain ⟨o88, rfl, N88q, K88⟩ := hQ88
    have N88 := Fr.app N76 N88q
    have hk88 : T88.heap.size ≤ T88.heap.size := Nat.le_refl _
    refine own_go (B := T88.setTop (mkF m 76 (LS_RJsJsuuu r0 q1 ((own_fd q1 wm) * wm)) [(.ref o88)])) (fun t k => st88.trans k) ?_
    refine own_go (B := T88.setTop (mkF m 110 (LS_RJsJsRuu r0 q1 ((own_fd q1 wm) * wm) o88) [(.ref o88)])) (fun t k => ?_) ?_
    · show Steps p.tables e below (T88.setTop (mkF m 76 (LS_RJsJsuuu r0 q1 ((own_fd q1 wm) * wm)) [(.ref o88)])) _
      refine XS.astore X88.here hx rfl (hb hby d9_76) rfl rfl (l' := (LS_RJsJsRuu r0 q1 ((own_fd q1 wm) * wm) o88)) rfl ?_
      show Steps p.tables e below (T88.setTop (mkF m 78 (LS_RJsJsRuu r0 q1 ((own_fd q1 wm) * wm) o88) [])) _
      refine XS.goto X88.here hx rfl (pc0 := 78) (pc' := 108) rfl (hb hby d9_78) (by decide) (by decide) ?_
      show Steps p.tables e below (T88.setTop (mkF m 108 (LS_RJsJsRuu r0 q1 ((own_fd q1 wm) * wm) o88) [])) _
      refine XS.aload X88.here hx rfl (hb hby d9_108) rfl rfl ?_
      exact k
    obtain ⟨fs, hr, hrun, hended, hRW⟩ := Stand.leaveW (s := s) (vm₁ := T88.vm) X88 hS88 hk88 (v := some (.ref o88)) (fun h => by rw [Bd.returns] at h; cases h)
    refine ⟨_, _, ?_, hrun, hended, _, _, rfl, ?_, hRW.1, hRW.2.1, hRW.2.2.1, hRW.2.2.2.mono (by decide) (by decide)⟩
    · show Steps p.tables e below (T88.setTop (mkF m 110 (LS_RJsJsRuu r0 q1 ((own_fd q1 wm) * wm) o88) [(.ref o88)])) _
      exact retOut X88 hx Bd.returns rfl (Or.inr (Or.inr (Or.inr (Or.inr ⟨rfl, rfl, rfl⟩)))) (hb hby d9_110) hr
    · show Qdec Z r0 q1 rr wz wm wst ad cp h0 n0 _ T88.heap _
      have Fw53_v92 := Fw53.other W56 (Or.inr (slot_ne (Or.inl (hw _ (List.mem_of_getElem? (i := 84) rfl))) (Or.inl (hw _ (List.mem_of_getElem? (i := 86) rfl))) (by decide) (t := .long) (t' := .int) (by decide) (by decide)))
      have Fw53_v93 := Fw53_v92.other W70 (Or.inr (slot_ne (Or.inl (hw _ (List.mem_of_getElem? (i := 84) rfl))) (Or.inl (hw _ (List.mem_of_getElem? (i := 86) rfl))) (by decide) (t := .long) (t' := .int) (by decide) (by decide)))
      have Fw53_v94 := Fw53_v93.keep K88 nin0
      have K0_v95 := K0.wr W53 (Or.inl (List.mem_of_getElem? (i := 0) rfl))
      have K0_v96 := K0_v95.wr W56 (Or.inl (List.mem_of_getElem? (i := 0) rfl))
      have K0_v97 := K0_v96.wr W70 (Or.inl (List.mem_of_getElem? (i := 0) rfl))
      have K0_v98 := K0_v97.trans K88 all0
      have F0_v99 := F0_v71.keep K88 nin0
      have F1_v100 := F1.other W53 (Or.inr (slot_ne (Or.inr (hw _ (List.mem_of_getElem? (i := 74) rfl))) (Or.inl (hw _ (List.mem_of_getElem? (i := 84) rfl))) (by decide) (t := .long) (t' := .long) (by decide) (by decide)))
      have F1_v101 := F1_v100.other W56 (Or.inr (slot_ne (Or.inr (hw _ (List.mem_of_getElem? (i := 74) rfl))) (Or.inl (hw _ (List.mem_of_getElem? (i := 86) rfl))) (by decide) (t := .long) (t' := .int) (by decide) (by decide)))
      have F1_v102 := F1_v101.other W70 (Or.inr (slot_ne (Or.inr (hw _ (List.mem_of_getElem? (i := 74) rfl))) (Or.inl (hw _ (List.mem_of_getElem? (i := 86) rfl))) (by decide) (t := .long) (t' := .int) (by decide) (by decide)))
      have F1_v103 := F1_v102.keep K88 nin0
      have Fw70_v104 := Fw70.keep K88 nin0
      exact ⟨o88, ((0 : Int32) + (1 : Int32)), rfl, N88, K0_v98, F0_v99, F1_v103, Fw53_v94, Fw70_v104, ⟨by decide, by have e : ((0 : Int32) + (1 : Int32)).toInt = 1 := rfl; rw [e]; omega⟩⟩
theorem own_t0 (t : Int64) : -2305843009213693952 ≤ (t >>> (((2 : Int32) &&& 0x3f).toInt64)).toInt ∧ (t >>> (((2 : Int32) &&& 0x3f).toInt64)).toInt < 2305843009213693952 := by
  have h := Jvm.Kit.i64_shr t (((2 : Int32) &&& 0x3f).toInt64) (k := 2) (by decide)
  have h1 := Int64.le_toInt t
  have h2 := Int64.toInt_lt t
  rw [h]
  omega
theorem own_sec (a : Int32) : 1 ≤ (if (1 : Int32) < (a &&& (2147483647 : Int32)) then (a &&& (2147483647 : Int32)) else (1 : Int32)).toInt := by
  have h1 : (1 : Int32).toInt = 1 := rfl
  split
  · rename_i h
    rw [Int32.lt_iff_toInt_lt, h1] at h
    omega
  · rw [h1]; omega
theorem own_wm {p : Int32} (h : 1 ≤ p.toInt) : 1000 ≤ (((p.toInt64) * (1000 : Int64))).toInt ∧ (((p.toInt64) * (1000 : Int64))).toInt ≤ 2147483647000 := by
  have h2 := Int32.toInt_lt p
  have hk : (1000 : Int64).toInt = 1000 := rfl
  have hp := Int32.toInt_toInt64 p
  rw [Jvm.Kit.i64_mul (by rw [hp, hk]; omega) (by rw [hp, hk]; omega), hp, hk]
  omega
theorem own_cap (c : Int32) : 1 ≤ ((1 : Int32) + (c &&& (1 : Int32))).toInt ∧ ((1 : Int32) + (c &&& (1 : Int32))).toInt ≤ 2 := by
  have h : (c &&& (1 : Int32)).toInt = c.toInt % 2 ^ 1 := Jvm.Kit.i32_mask c 1 (k := 1) (by decide) (by decide)
  have h1 : (1 : Int32).toInt = 1 := rfl
  rw [Jvm.Kit.i32_add (by rw [h1]; omega) (by rw [h1]; omega), h1]
  omega
theorem own_ge1 {p : Int32} (h : 1 ≤ p.toInt) : ¬ (p < (1 : Int32)) := by
  rw [Int32.lt_iff_toInt_lt]
  have h1 : (1 : Int32).toInt = 1 := rfl
  omega
theorem own_n0 {a : Int32} {k : Int} (h : 1 ≤ a.toInt ∧ a.toInt ≤ k) : ¬ (a = (0 : Int32)) := fun q => by
  rw [q] at h
  exact absurd h.1 (by decide)
theorem own_and3 (x : Int32) : x &&& (3 : Int32) = (0 : Int32) ∨ x &&& (3 : Int32) = (1 : Int32) ∨ x &&& (3 : Int32) = (2 : Int32) ∨ x &&& (3 : Int32) = (3 : Int32) := by
  have h : (x &&& (3 : Int32)).toInt = x.toInt % 2 ^ 2 := Jvm.Kit.i32_mask x 3 (k := 2) (by decide) (by decide)
  simp only [← Int32.toInt_inj, h, Int32.reduceToInt]
  omega
theorem own_fin {ad : Int32} {q a b : Int64} (h : ¬ (ad = (0 : Int32))) (e : a = b) (hl : q < b) : (if ad = (0 : Int32) then (1 : Int32) else if q < a then (0 : Int32) else (1 : Int32)) = (0 : Int32) := by
  rw [if_neg h, e, if_pos hl]
theorem own_fin2 {ad : Int32} {q a b : Int64} (h : ¬ (ad = (0 : Int32))) (e : a = b) (hl : ¬ (q < b)) : (if ad = (0 : Int32) then (1 : Int32) else if q < a then (0 : Int32) else (1 : Int32)) = (1 : Int32) := by
  rw [if_neg h, e, if_neg hl]
theorem ef_0 (m : MethodId) (q0 : Int64) (q1 : Int64) (p2 : Int32) (p3 : Int32) (q4 : Int64) : entryFrame m #[(.long q0), (.long q1), (.int p2), (.int p3), (.long q4)] maxLocals = mkF m 0 #[.val (.long q0), .second, .val (.long q1), .second, .val (.int p2), .val (.int p3), .val (.long q4), .second, .unset, .unset, .unset, .unset, .unset, .unset, .unset, .unset, .unset, .unset, .unset, .unset, .unset, .unset] [] := by first | (simp [entryFrame, mkF, argsToLocals, Value.category, maxLocals]; done) | rfl
theorem pn_0 : plainName "com/example/blend2/blend2/FixedWindowIsIdleAtPinLaw" = true := by first | (simp [plainName, overriddenIn]; done) | decide +kernel
abbrev LS_JsJsIIJsuuuuuuuuuuuuuu (a0 : Int64) (a1 : Int64) (a2 : Int32) (a3 : Int32) (a4 : Int64) : Array Slot := #[.val (.long a0), .second, .val (.long a1), .second, .val (.int a2), .val (.int a3), .val (.long a4), .second, .unset, .unset, .unset, .unset, .unset, .unset, .unset, .unset, .unset, .unset, .unset, .unset, .unset, .unset]
abbrev LS_JsJsIIJsJsuuuuuuuuuuuu (a0 : Int64) (a1 : Int64) (a2 : Int32) (a3 : Int32) (a4 : Int64) (a5 : Int64) : Array Slot := #[.val (.long a0), .second, .val (.long a1), .second, .val (.int a2), .val (.int a3), .val (.long a4), .second, .val (.long a5), .second, .unset, .unset, .unset, .unset, .unset, .unset, .unset, .unset, .unset, .unset, .unset, .unset]
theorem pd__II_I : parseMethodDescriptor "(II)I" = some ⟨[.int, .int], some .int⟩ := by decide +kernel
abbrev LS_JsJsIIJsJsIuuuuuuuuuuu (a0 : Int64) (a1 : Int64) (a2 : Int32) (a3 : Int32) (a4 : Int64) (a5 : Int64) (a6 : Int32) : Array Slot := #[.val (.long a0), .second, .val (.long a1), .second, .val (.int a2), .val (.int a3), .val (.long a4), .second, .val (.long a5), .second, .val (.int a6), .unset, .unset, .unset, .unset, .unset, .unset, .unset, .unset, .unset, .unset, .unset]
abbrev LS_JsJsIIJsJsIJsuuuuuuuuu (a0 : Int64) (a1 : Int64) (a2 : Int32) (a3 : Int32) (a4 : Int64) (a5 : Int64) (a6 : Int32) (a7 : Int64) : Array Slot := #[.val (.long a0), .second, .val (.long a1), .second, .val (.int a2), .val (.int a3), .val (.long a4), .second, .val (.long a5), .second, .val (.int a6), .val (.long a7), .second, .unset, .unset, .unset, .unset, .unset, .unset, .unset, .unset, .unset]
abbrev LS_JsJsIIJsJsIJsIuuuuuuuu (a0 : Int64) (a1 : Int64) (a2 : Int32) (a3 : Int32) (a4 : Int64) (a5 : Int64) (a6 : Int32) (a7 : Int64) (a8 : Int32) : Array Slot := #[.val (.long a0), .second, .val (.long a1), .second, .val (.int a2), .val (.int a3), .val (.long a4), .second, .val (.long a5), .second, .val (.int a6), .val (.long a7), .second, .val (.int a8), .unset, .unset, .unset, .unset, .unset, .unset, .unset, .unset]
abbrev LS_JsJsIIJsJsIJsIIuuuuuuu (a0 : Int64) (a1 : Int64) (a2 : Int32) (a3 : Int32) (a4 : Int64) (a5 : Int64) (a6 : Int32) (a7 : Int64) (a8 : Int32) (a9 : Int32) : Array Slot := #[.val (.long a0), .second, .val (.long a1), .second, .val (.int a2), .val (.int a3), .val (.long a4), .second, .val (.long a5), .second, .val (.int a6), .val (.long a7), .second, .val (.int a8), .val (.int a9), .unset, .unset, .unset, .unset, .unset, .unset, .unset]
abbrev LS_JsJsIIJsJsIJsIIIuuuuuu (a0 : Int64) (a1 : Int64) (a2 : Int32) (a3 : Int32) (a4 : Int64) (a5 : Int64) (a6 : Int32) (a7 : Int64) (a8 : Int32) (a9 : Int32) (a10 : Int32) : Array Slot := #[.val (.long a0), .second, .val (.long a1), .second, .val (.int a2), .val (.int a3), .val (.long a4), .second, .val (.long a5), .second, .val (.int a6), .val (.long a7), .second, .val (.int a8), .val (.int a9), .val (.int a10), .unset, .unset, .unset, .unset, .unset, .unset]
abbrev LS_JsJsIIJsJsIJsIIIJsuuuu (a0 : Int64) (a1 : Int64) (a2 : Int32) (a3 : Int32) (a4 : Int64) (a5 : Int64) (a6 : Int32) (a7 : Int64) (a8 : Int32) (a9 : Int32) (a10 : Int32) (a11 : Int64) : Array Slot := #[.val (.long a0), .second, .val (.long a1), .second, .val (.int a2), .val (.int a3), .val (.long a4), .second, .val (.long a5), .second, .val (.int a6), .val (.long a7), .second, .val (.int a8), .val (.int a9), .val (.int a10), .val (.long a11), .second, .unset, .unset, .unset, .unset]
abbrev LS_JsJsIIJsJsIJsIIIJsJsuu (a0 : Int64) (a1 : Int64) (a2 : Int32) (a3 : Int32) (a4 : Int64) (a5 : Int64) (a6 : Int32) (a7 : Int64) (a8 : Int32) (a9 : Int32) (a10 : Int32) (a11 : Int64) (a12 : Int64) : Array Slot := #[.val (.long a0), .second, .val (.long a1), .second, .val (.int a2), .val (.int a3), .val (.long a4), .second, .val (.long a5), .second, .val (.int a6), .val (.long a7), .second, .val (.int a8), .val (.int a9), .val (.int a10), .val (.long a11), .second, .val (.long a12), .second, .unset, .unset]
theorem pd__Ljava_lang_String_II_V : parseMethodDescriptor "(Ljava/lang/String;II)V" = some ⟨[(.object "java/lang/String"), .int, .int], none⟩ := by decide +kernel
theorem pd__Lcom_example_blend2_blend2_Rule__V : parseMethodDescriptor "(Lcom/example/blend2/blend2/Rule;)V" = some ⟨[(.object "com/example/blend2/blend2/Rule")], none⟩ := by decide +kernel
abbrev LS_JsJsIIJsJsIJsIIIJsJsRu (a0 : Int64) (a1 : Int64) (a2 : Int32) (a3 : Int32) (a4 : Int64) (a5 : Int64) (a6 : Int32) (a7 : Int64) (a8 : Int32) (a9 : Int32) (a10 : Int32) (a11 : Int64) (a12 : Int64) (a13 : Addr) : Array Slot := #[.val (.long a0), .second, .val (.long a1), .second, .val (.int a2), .val (.int a3), .val (.long a4), .second, .val (.long a5), .second, .val (.int a6), .val (.long a7), .second, .val (.int a8), .val (.int a9), .val (.int a10), .val (.long a11), .second, .val (.long a12), .second, .val (.ref a13), .unset]
abbrev LS_JsJsIIJsJsIJsIIIJsJsRI (a0 : Int64) (a1 : Int64) (a2 : Int32) (a3 : Int32) (a4 : Int64) (a5 : Int64) (a6 : Int32) (a7 : Int64) (a8 : Int32) (a9 : Int32) (a10 : Int32) (a11 : Int64) (a12 : Int64) (a13 : Addr) (a14 : Int32) : Array Slot := #[.val (.long a0), .second, .val (.long a1), .second, .val (.int a2), .val (.int a3), .val (.long a4), .second, .val (.long a5), .second, .val (.int a6), .val (.long a7), .second, .val (.int a8), .val (.int a9), .val (.int a10), .val (.long a11), .second, .val (.long a12), .second, .val (.ref a13), .val (.int a14)]
theorem pd__J_Z : parseMethodDescriptor "(J)Z" = some ⟨[.long], some .boolean⟩ := by decide +kernel
theorem pd__J_Lcom_example_blend2_blend2_Decision_ : parseMethodDescriptor "(J)Lcom/example/blend2/blend2/Decision;" = some ⟨[.long], some (.object "com/example/blend2/blend2/Decision")⟩ := by decide +kernel
def Q0 (Z : State) (q0 : Int64) (q1 : Int64) (p2 : Int32) (p3 : Int32) (q4 : Int64) (w_Algorithm_SLIDING_WINDOW_LOG : Addr) (w_StoreFailurePolicy_OPEN : Addr) (w_Duration_ZERO : Addr) (h0 : Heap) (n0 : Nat) (v : Option Value) (h : Heap) (L : List Loc) : Prop := v = some (.int (1 : Int32)) ∧ Fr n0 L
set_option maxRecDepth 65536 in
set_option maxHeartbeats 40000000 in
theorem rm0 (l : Launch) (Z : State) (a0 : Array Value) (hw : ∀ d ∈ tables_1, d.before a0 Z = true) (ws : List Jvm.Cond) (q0 : Int64) (q1 : Int64) (p2 : Int32) (p3 : Int32) (q4 : Int64) (w_Algorithm_SLIDING_WINDOW_LOG : Addr) (w_StoreFailurePolicy_OPEN : Addr) (w_Duration_ZERO : Addr) (h0 : Heap) (n0 : Nat) (Z0 : n0 ≤ h0.size) (S_Algorithm_SLIDING_WINDOW_LOG : Sta Z h0 "com/example/blend2/blend2/Algorithm" "SLIDING_WINDOW_LOG" "Lcom/example/blend2/blend2/Algorithm;" (.ref w_Algorithm_SLIDING_WINDOW_LOG)) (E_Algorithm_SLIDING_WINDOW_LOG : Exa Z h0 w_Algorithm_SLIDING_WINDOW_LOG "com/example/blend2/blend2/Algorithm") (S_StoreFailurePolicy_OPEN : Sta Z h0 "com/example/blend2/blend2/StoreFailurePolicy" "OPEN" "Lcom/example/blend2/blend2/StoreFailurePolicy;" (.ref w_StoreFailurePolicy_OPEN)) (E_StoreFailurePolicy_OPEN : Exa Z h0 w_StoreFailurePolicy_OPEN "com/example/blend2/blend2/StoreFailurePolicy") (S_Duration_ZERO : Sta Z h0 "java/time/Duration" "ZERO" "Ljava/time/Duration;" (.ref w_Duration_ZERO)) (E_Duration_ZERO : Exa Z h0 w_Duration_ZERO "java/time/Duration") (S_Rule_DEFAULT_ALGORITHM : Sta Z h0 "com/example/blend2/blend2/Rule" "DEFAULT_ALGORITHM" "Lcom/example/blend2/blend2/Algorithm;" (.ref w_Algorithm_SLIDING_WINDOW_LOG)) (S_Rule_DEFAULT_STORE_FAILURE_POLICY : Sta Z h0 "com/example/blend2/blend2/Rule" "DEFAULT_STORE_FAILURE_POLICY" "Lcom/example/blend2/blend2/StoreFailurePolicy;" (.ref w_StoreFailurePolicy_OPEN)) (F_Duration_ZERO_seconds : Fld Z h0 w_Duration_ZERO "java/time/Duration" "seconds" "J" (.long (0 : Int64))) (F_Duration_ZERO_nanos : Fld Z h0 w_Duration_ZERO "java/time/Duration" "nanos" "I" (.int (0 : Int32))) :
    MetFree l x (head1 (Jvm.Cond.code x code maxLocals ret :: ws) room_1) (fun a U => a = #[(.long q0), (.long q1), (.int p2), (.int p3), (.long q4)] ∧ Z.Warmed39 U.vm ∧ U.heap = h0) (fun _ _ _ _ _ => True) (fun _ U o U' => ∃ v L, o = .returned v ∧ Q0 Z q0 q1 p2 p3 q4 w_Algorithm_SLIDING_WINDOW_LOG w_StoreFailurePolicy_OPEN w_Duration_ZERO h0 n0 v U'.heap L ∧ ReturnedEndW U o U' L room_1.cells room_1.slots) := by
  refine MetFree.of_bodySF (plainFor_of_name pn_0) hisR ?_
  intro p e s m args below meth c s₁ Bd hml0 hP hK
  obtain ⟨rfl, hZ, hh⟩ := hP
  have hx := Bd.exec
  have hby := Bd.bytes
  have hml : c.maxLocals = 22 := hml0
  have hown : s.vm.findClass "com/example/blend2/blend2/FixedWindowIsIdleAtPinLaw" = some m.cls := findClass_of_methodNamed Bd.named
  have hnm := (name_of_methodNamed Bd.named Bd.method).1
  have X0 : Stand p l e room_1 s m #[(.long q0), (.long q1), (.int p2), (.int p3), (.long q4)] below meth c s₁ [] 0 0 := Stand.of_body Bd
  have e0 : s₁.heap = h0 := by rw [← hh, Bd.state]; rfl
  have N0 := Fr.nil n0
  refine own_go (B := s₁.setTop (mkF m 0 (LS_JsJsIIJsuuuuuuuuuuuuuu q0 q1 p2 p3 q4) [])) (fun t k => castTop (ef_0 m q0 q1 p2 p3 q4) k) ?_
  have hS0 : s.Since s.vm 0 := (State.WarmedH.refl s).since 0
  have hk0 : 0 ≤ Array.size h0 := Nat.zero_le _
  refine own_go (B := s₁.setTop (mkF m 11 (LS_JsJsIIJsJsuuuuuuuuuuuu q0 q1 p2 p3 q4 (q0 >>> ((2 : Int32) &&& 0x3f).toInt64)) [(.int (p2 &&& (2147483647 : Int32))), (.int (1 : Int32))])) (fun t k => ?_) ?_
  · refine XS.lloadN X0.here hx rfl (hb hby at_0) rfl ?_
    refine XS.iconst X0.here hx rfl (hb hby at_1) ?_
    show Steps p.tables e below (s₁.setTop (mkF m 2 (LS_JsJsIIJsuuuuuuuuuuuuuu q0 q1 p2 p3 q4) [(.int (2 : Int32)), (.long q0)])) _
    refine XS.lshr X0.here hx rfl (hb hby at_2) rfl ?_
    refine XS.lstore X0.here hx rfl (hb hby at_3) rfl (l' := (LS_JsJsIIJsJsuuuuuuuuuuuu q0 q1 p2 p3 q4 (q0 >>> ((2 : Int32) &&& 0x3f).toInt64))) rfl ?_
    refine XS.iconst X0.here hx rfl (hb hby at_5) ?_
    show Steps p.tables e below (s₁.setTop (mkF m 6 (LS_JsJsIIJsJsuuuuuuuuuuuu q0 q1 p2 p3 q4 (q0 >>> ((2 : Int32) &&& 0x3f).toInt64)) [(.int (1 : Int32))])) _
    refine XS.iload X0.here hx rfl (hb hby at_6) rfl ?_
    refine X0.ldcInt hx hown (mvT hZ (hw _ (List.mem_of_getElem? (i := 0) rfl))) (g := (mkF m 8 (LS_JsJsIIJsJsuuuuuuuuuuuu q0 q1 p2 p3 q4 (q0 >>> ((2 : Int32) &&& 0x3f).toInt64)) [(.int p2), (.int (1 : Int32))])) rfl (hb hby at_8) _ ?_
    refine XS.iand X0.here hx rfl (hb hby at_10) rfl ?_
    exact k
  obtain ⟨_, _, ⟨T1, L1, k1, n1⟩, -, X1, ⟨Lc1, hQ1, l1, y1, z1⟩, st1⟩ := Jvm.LawKit.callS X0 hx (y := (⟨"java/lang/Math", "max", "(II)I"⟩ : MethodName)) hown (mvT hZ (hw _ (List.mem_of_getElem? (i := 1) rfl))) (mvT hZ (hw _ (List.mem_of_getElem? (i := 2) rfl))) (mvT hZ (hw _ (List.mem_of_getElem? (i := 3) rfl))) (mvT hZ (hw _ (List.mem_of_getElem? (i := 4) rfl))) (by decide) (backOf (W := 0) (rmmax l Z a0 hw [] (1 : Int32) (p2 &&& (2147483647 : Int32)) h0 n0 Z0) hZ (hw _ (List.mem_of_getElem? (i := 4) rfl)) (hw _ (List.mem_of_getElem? (i := 3) rfl)) (by decide) (by decide)) (g := (mkF m 11 (LS_JsJsIIJsJsuuuuuuuuuuuu q0 q1 p2 p3 q4 (q0 >>> ((2 : Int32) &&& 0x3f).toInt64)) [(.int (p2 &&& (2147483647 : Int32))), (.int (1 : Int32))])) rfl (by rw [hml]; rfl) (argsL := [(.int (1 : Int32)), (.int (p2 &&& (2147483647 : Int32)))]) (rest := []) (lenOf pd__II_I rfl) rfl (by show 2 * 0 + _ ≤ _; exact Nat.le_of_eq rfl) (hb hby at_11) (fun _ _ => ⟨rfl, e0, (by decide : 0 + 0 ≤ _), (by decide : 0 + 0 ≤ _)⟩)
  dsimp only [Pt.U, Pt.locs, Pt.cells, Pt.slots] at X1 l1 y1 z1 st1 hQ1
  subst l1 y1 z1
  obtain ⟨rfl, N1q, e1⟩ := hQ1
  have N1 := Fr.app N0 N1q
  refine own_go (B := T1.setTop (mkF m 14 (LS_JsJsIIJsJsuuuuuuuuuuuu q0 q1 p2 p3 q4 (q0 >>> ((2 : Int32) &&& 0x3f).toInt64)) [(.int (if (1 : Int32) < (p2 &&& (2147483647 : Int32)) then (p2 &&& (2147483647 : Int32)) else (1 : Int32)))])) (fun t k => st1 _ k) ?_
  refine own_go (B := T1.setTop (mkF m 47 (LS_JsJsIIJsJsIJsIIuuuuuuu q0 q1 p2 p3 q4 (q0 >>> ((2 : Int32) &&& 0x3f).toInt64) (if (1 : Int32) < (p2 &&& (2147483647 : Int32)) then (p2 &&& (2147483647 : Int32)) else (1 : Int32)) (((if (1 : Int32) < (p2 &&& (2147483647 : Int32)) then (p2 &&& (2147483647 : Int32)) else (1 : Int32)).toInt64) * (1000 : Int64)) ((1 : Int32) + (p3 &&& (1 : Int32))) (((p3.toUInt32 >>> ((1 : Int32) &&& 31).toUInt32).toInt32) &&& (3 : Int32))) [(.int (((p3.toUInt32 >>> ((3 : Int32) &&& 31).toUInt32).toInt32) &&& (1 : Int32)))])) (fun t k => ?_) ?_
  · refine XS.istore X1.here hx rfl (hb hby at_14) rfl (l' := (LS_JsJsIIJsJsIuuuuuuuuuuu q0 q1 p2 p3 q4 (q0 >>> ((2 : Int32) &&& 0x3f).toInt64) (if (1 : Int32) < (p2 &&& (2147483647 : Int32)) then (p2 &&& (2147483647 : Int32)) else (1 : Int32)))) rfl ?_
    refine XS.iload X1.here hx rfl (hb hby at_16) rfl ?_
    show Steps p.tables e below (T1.setTop (mkF m 18 (LS_JsJsIIJsJsIuuuuuuuuuuu q0 q1 p2 p3 q4 (q0 >>> ((2 : Int32) &&& 0x3f).toInt64) (if (1 : Int32) < (p2 &&& (2147483647 : Int32)) then (p2 &&& (2147483647 : Int32)) else (1 : Int32))) [(.int (if (1 : Int32) < (p2 &&& (2147483647 : Int32)) then (p2 &&& (2147483647 : Int32)) else (1 : Int32)))])) _
    refine XS.i2l X1.here hx rfl (hb hby at_18) rfl ?_
    refine X1.ldc2Long hx hown (mvT hZ (hw _ (List.mem_of_getElem? (i := 5) rfl))) (g := (mkF m 19 (LS_JsJsIIJsJsIuuuuuuuuuuu q0 q1 p2 p3 q4 (q0 >>> ((2 : Int32) &&& 0x3f).toInt64) (if (1 : Int32) < (p2 &&& (2147483647 : Int32)) then (p2 &&& (2147483647 : Int32)) else (1 : Int32))) [(.long ((if (1 : Int32) < (p2 &&& (2147483647 : Int32)) then (p2 &&& (2147483647 : Int32)) else (1 : Int32)).toInt64))])) rfl (hb hby at_19) _ ?_
    refine XS.lmul X1.here hx rfl (hb hby at_22) rfl ?_
    show Steps p.tables e below (T1.setTop (mkF m 23 (LS_JsJsIIJsJsIuuuuuuuuuuu q0 q1 p2 p3 q4 (q0 >>> ((2 : Int32) &&& 0x3f).toInt64) (if (1 : Int32) < (p2 &&& (2147483647 : Int32)) then (p2 &&& (2147483647 : Int32)) else (1 : Int32))) [(.long (((if (1 : Int32) < (p2 &&& (2147483647 : Int32)) then (p2 &&& (2147483647 : Int32)) else (1 : Int32)).toInt64) * (1000 : Int64)))])) _
    refine XS.lstore X1.here hx rfl (hb hby at_23) rfl (l' := (LS_JsJsIIJsJsIJsuuuuuuuuu q0 q1 p2 p3 q4 (q0 >>> ((2 : Int32) &&& 0x3f).toInt64) (if (1 : Int32) < (p2 &&& (2147483647 : Int32)) then (p2 &&& (2147483647 : Int32)) else (1 : Int32)) (((if (1 : Int32) < (p2 &&& (2147483647 : Int32)) then (p2 &&& (2147483647 : Int32)) else (1 : Int32)).toInt64) * (1000 : Int64)))) rfl ?_
    refine XS.iconst X1.here hx rfl (hb hby at_25) ?_
    refine XS.iload X1.here hx rfl (hb hby at_26) rfl ?_
    show Steps p.tables e below (T1.setTop (mkF m 28 (LS_JsJsIIJsJsIJsuuuuuuuuu q0 q1 p2 p3 q4 (q0 >>> ((2 : Int32) &&& 0x3f).toInt64) (if (1 : Int32) < (p2 &&& (2147483647 : Int32)) then (p2 &&& (2147483647 : Int32)) else (1 : Int32)) (((if (1 : Int32) < (p2 &&& (2147483647 : Int32)) then (p2 &&& (2147483647 : Int32)) else (1 : Int32)).toInt64) * (1000 : Int64))) [(.int p3), (.int (1 : Int32))])) _
    refine XS.iconst X1.here hx rfl (hb hby at_28) ?_
    refine XS.iand X1.here hx rfl (hb hby at_29) rfl ?_
    refine XS.iadd X1.here hx rfl (hb hby at_30) rfl ?_
    show Steps p.tables e below (T1.setTop (mkF m 31 (LS_JsJsIIJsJsIJsuuuuuuuuu q0 q1 p2 p3 q4 (q0 >>> ((2 : Int32) &&& 0x3f).toInt64) (if (1 : Int32) < (p2 &&& (2147483647 : Int32)) then (p2 &&& (2147483647 : Int32)) else (1 : Int32)) (((if (1 : Int32) < (p2 &&& (2147483647 : Int32)) then (p2 &&& (2147483647 : Int32)) else (1 : Int32)).toInt64) * (1000 : Int64))) [(.int ((1 : Int32) + (p3 &&& (1 : Int32))))])) _
    refine XS.istore X1.here hx rfl (hb hby at_31) rfl (l' := (LS_JsJsIIJsJsIJsIuuuuuuuu q0 q1 p2 p3 q4 (q0 >>> ((2 : Int32) &&& 0x3f).toInt64) (if (1 : Int32) < (p2 &&& (2147483647 : Int32)) then (p2 &&& (2147483647 : Int32)) else (1 : Int32)) (((if (1 : Int32) < (p2 &&& (2147483647 : Int32)) then (p2 &&& (2147483647 : Int32)) else (1 : Int32)).toInt64) * (1000 : Int64)) ((1 : Int32) + (p3 &&& (1 : Int32))))) rfl ?_
    refine XS.iload X1.here hx rfl (hb hby at_33) rfl ?_
    refine XS.iconst X1.here hx rfl (hb hby at_35) ?_
    show Steps p.tables e below (T1.setTop (mkF m 36 (LS_JsJsIIJsJsIJsIuuuuuuuu q0 q1 p2 p3 q4 (q0 >>> ((2 : Int32) &&& 0x3f).toInt64) (if (1 : Int32) < (p2 &&& (2147483647 : Int32)) then (p2 &&& (2147483647 : Int32)) else (1 : Int32)) (((if (1 : Int32) < (p2 &&& (2147483647 : Int32)) then (p2 &&& (2147483647 : Int32)) else (1 : Int32)).toInt64) * (1000 : Int64)) ((1 : Int32) + (p3 &&& (1 : Int32)))) [(.int (1 : Int32)), (.int p3)])) _
    refine XS.iushr X1.here hx rfl (hb hby at_36) rfl ?_
    refine XS.iconst X1.here hx rfl (hb hby at_37) ?_
    refine XS.iand X1.here hx rfl (hb hby at_38) rfl ?_
    show Steps p.tables e below (T1.setTop (mkF m 39 (LS_JsJsIIJsJsIJsIuuuuuuuu q0 q1 p2 p3 q4 (q0 >>> ((2 : Int32) &&& 0x3f).toInt64) (if (1 : Int32) < (p2 &&& (2147483647 : Int32)) then (p2 &&& (2147483647 : Int32)) else (1 : Int32)) (((if (1 : Int32) < (p2 &&& (2147483647 : Int32)) then (p2 &&& (2147483647 : Int32)) else (1 : Int32)).toInt64) * (1000 : Int64)) ((1 : Int32) + (p3 &&& (1 : Int32)))) [(.int (((p3.toUInt32 >>> ((1 : Int32) &&& 31).toUInt32).toInt32) &&& (3 : Int32)))])) _
    refine XS.istore X1.here hx rfl (hb hby at_39) rfl (l' := (LS_JsJsIIJsJsIJsIIuuuuuuu q0 q1 p2 p3 q4 (q0 >>> ((2 : Int32) &&& 0x3f).toInt64) (if (1 : Int32) < (p2 &&& (2147483647 : Int32)) then (p2 &&& (2147483647 : Int32)) else (1 : Int32)) (((if (1 : Int32) < (p2 &&& (2147483647 : Int32)) then (p2 &&& (2147483647 : Int32)) else (1 : Int32)).toInt64) * (1000 : Int64)) ((1 : Int32) + (p3 &&& (1 : Int32))) (((p3.toUInt32 >>> ((1 : Int32) &&& 31).toUInt32).toInt32) &&& (3 : Int32)))) rfl ?_
    refine XS.iload X1.here hx rfl (hb hby at_41) rfl ?_
    refine XS.iconst X1.here hx rfl (hb hby at_43) ?_
    show Steps p.tables e below (T1.setTop (mkF m 44 (LS_JsJsIIJsJsIJsIIuuuuuuu q0 q1 p2 p3 q4 (q0 >>> ((2 : Int32) &&& 0x3f).toInt64) (if (1 : Int32) < (p2 &&& (2147483647 : Int32)) then (p2 &&& (2147483647 : Int32)) else (1 : Int32)) (((if (1 : Int32) < (p2 &&& (2147483647 : Int32)) then (p2 &&& (2147483647 : Int32)) else (1 : Int32)).toInt64) * (1000 : Int64)) ((1 : Int32) + (p3 &&& (1 : Int32))) (((p3.toUInt32 >>> ((1 : Int32) &&& 31).toUInt32).toInt32) &&& (3 : Int32))) [(.int (3 : Int32)), (.int p3)])) _
    refine XS.iushr X1.here hx rfl (hb hby at_44) rfl ?_
    refine XS.iconst X1.here hx rfl (hb hby at_45) ?_
    refine XS.iand X1.here hx rfl (hb hby at_46) rfl ?_
    exact k
  by_cases hc47_2 : (((p3.toUInt32 >>> ((3 : Int32) &&& 31).toUInt32).toInt32) &&& (1 : Int32)) = (0 : Int32)
  · refine own_go (B := T1.setTop (mkF m 78 (LS_JsJsIIJsJsIJsIIIJsJsuu q0 q1 p2 p3 q4 (q0 >>> ((2 : Int32) &&& 0x3f).toInt64) (if (1 : Int32) < (p2 &&& (2147483647 : Int32)) then (p2 &&& (2147483647 : Int32)) else (1 : Int32)) (((if (1 : Int32) < (p2 &&& (2147483647 : Int32)) then (p2 &&& (2147483647 : Int32)) else (1 : Int32)).toInt64) * (1000 : Int64)) ((1 : Int32) + (p3 &&& (1 : Int32))) (((p3.toUInt32 >>> ((1 : Int32) &&& 31).toUInt32).toInt32) &&& (3 : Int32)) (0 : Int32) ((q0 >>> ((2 : Int32) &&& 0x3f).toInt64) - (q4 &&& (1099511627775 : Int64))) ((q0 >>> ((2 : Int32) &&& 0x3f).toInt64) + (q1 &&& (4398046511103 : Int64)))) [])) (fun t k => ?_) ?_
    · refine XS.ifYes X1.here hx rfl (pc0 := 47) (pc' := 54) rfl (hb hby at_47) rfl ((if0 _ _).trans (teq hc47_2).1) (by decide) (by decide) ?_
      refine XS.iconst X1.here hx rfl (hb hby at_54) ?_
      show Steps p.tables e below (T1.setTop (mkF m 55 (LS_JsJsIIJsJsIJsIIuuuuuuu q0 q1 p2 p3 q4 (q0 >>> ((2 : Int32) &&& 0x3f).toInt64) (if (1 : Int32) < (p2 &&& (2147483647 : Int32)) then (p2 &&& (2147483647 : Int32)) else (1 : Int32)) (((if (1 : Int32) < (p2 &&& (2147483647 : Int32)) then (p2 &&& (2147483647 : Int32)) else (1 : Int32)).toInt64) * (1000 : Int64)) ((1 : Int32) + (p3 &&& (1 : Int32))) (((p3.toUInt32 >>> ((1 : Int32) &&& 31).toUInt32).toInt32) &&& (3 : Int32))) [(.int (0 : Int32))])) _
      refine XS.istore X1.here hx rfl (hb hby at_55) rfl (l' := (LS_JsJsIIJsJsIJsIIIuuuuuu q0 q1 p2 p3 q4 (q0 >>> ((2 : Int32) &&& 0x3f).toInt64) (if (1 : Int32) < (p2 &&& (2147483647 : Int32)) then (p2 &&& (2147483647 : Int32)) else (1 : Int32)) (((if (1 : Int32) < (p2 &&& (2147483647 : Int32)) then (p2 &&& (2147483647 : Int32)) else (1 : Int32)).toInt64) * (1000 : Int64)) ((1 : Int32) + (p3 &&& (1 : Int32))) (((p3.toUInt32 >>> ((1 : Int32) &&& 31).toUInt32).toInt32) &&& (3 : Int32)) (0 : Int32))) rfl ?_
      refine XS.lload X1.here hx rfl (hb hby at_57) rfl ?_
      refine XS.lload X1.here hx rfl (hb hby at_59) rfl ?_
      show Steps p.tables e below (T1.setTop (mkF m 61 (LS_JsJsIIJsJsIJsIIIuuuuuu q0 q1 p2 p3 q4 (q0 >>> ((2 : Int32) &&& 0x3f).toInt64) (if (1 : Int32) < (p2 &&& (2147483647 : Int32)) then (p2 &&& (2147483647 : Int32)) else (1 : Int32)) (((if (1 : Int32) < (p2 &&& (2147483647 : Int32)) then (p2 &&& (2147483647 : Int32)) else (1 : Int32)).toInt64) * (1000 : Int64)) ((1 : Int32) + (p3 &&& (1 : Int32))) (((p3.toUInt32 >>> ((1 : Int32) &&& 31).toUInt32).toInt32) &&& (3 : Int32)) (0 : Int32)) [(.long q4), (.long (q0 >>> ((2 : Int32) &&& 0x3f).toInt64))])) _
      refine X1.ldc2Long hx hown (mvT hZ (hw _ (List.mem_of_getElem? (i := 6) rfl))) (g := (mkF m 61 (LS_JsJsIIJsJsIJsIIIuuuuuu q0 q1 p2 p3 q4 (q0 >>> ((2 : Int32) &&& 0x3f).toInt64) (if (1 : Int32) < (p2 &&& (2147483647 : Int32)) then (p2 &&& (2147483647 : Int32)) else (1 : Int32)) (((if (1 : Int32) < (p2 &&& (2147483647 : Int32)) then (p2 &&& (2147483647 : Int32)) else (1 : Int32)).toInt64) * (1000 : Int64)) ((1 : Int32) + (p3 &&& (1 : Int32))) (((p3.toUInt32 >>> ((1 : Int32) &&& 31).toUInt32).toInt32) &&& (3 : Int32)) (0 : Int32)) [(.long q4), (.long (q0 >>> ((2 : Int32) &&& 0x3f).toInt64))])) rfl (hb hby at_61) _ ?_
      refine XS.land X1.here hx rfl (hb hby at_64) rfl ?_
      refine XS.lsub X1.here hx rfl (hb hby at_65) rfl ?_
      show Steps p.tables e below (T1.setTop (mkF m 66 (LS_JsJsIIJsJsIJsIIIuuuuuu q0 q1 p2 p3 q4 (q0 >>> ((2 : Int32) &&& 0x3f).toInt64) (if (1 : Int32) < (p2 &&& (2147483647 : Int32)) then (p2 &&& (2147483647 : Int32)) else (1 : Int32)) (((if (1 : Int32) < (p2 &&& (2147483647 : Int32)) then (p2 &&& (2147483647 : Int32)) else (1 : Int32)).toInt64) * (1000 : Int64)) ((1 : Int32) + (p3 &&& (1 : Int32))) (((p3.toUInt32 >>> ((1 : Int32) &&& 31).toUInt32).toInt32) &&& (3 : Int32)) (0 : Int32)) [(.long ((q0 >>> ((2 : Int32) &&& 0x3f).toInt64) - (q4 &&& (1099511627775 : Int64))))])) _
      refine XS.lstore X1.here hx rfl (hb hby at_66) rfl (l' := (LS_JsJsIIJsJsIJsIIIJsuuuu q0 q1 p2 p3 q4 (q0 >>> ((2 : Int32) &&& 0x3f).toInt64) (if (1 : Int32) < (p2 &&& (2147483647 : Int32)) then (p2 &&& (2147483647 : Int32)) else (1 : Int32)) (((if (1 : Int32) < (p2 &&& (2147483647 : Int32)) then (p2 &&& (2147483647 : Int32)) else (1 : Int32)).toInt64) * (1000 : Int64)) ((1 : Int32) + (p3 &&& (1 : Int32))) (((p3.toUInt32 >>> ((1 : Int32) &&& 31).toUInt32).toInt32) &&& (3 : Int32)) (0 : Int32) ((q0 >>> ((2 : Int32) &&& 0x3f).toInt64) - (q4 &&& (1099511627775 : Int64))))) rfl ?_
      refine XS.lload X1.here hx rfl (hb hby at_68) rfl ?_
      refine XS.lloadN X1.here hx rfl (hb hby at_70) rfl ?_
      show Steps p.tables e below (T1.setTop (mkF m 71 (LS_JsJsIIJsJsIJsIIIJsuuuu q0 q1 p2 p3 q4 (q0 >>> ((2 : Int32) &&& 0x3f).toInt64) (if (1 : Int32) < (p2 &&& (2147483647 : Int32)) then (p2 &&& (2147483647 : Int32)) else (1 : Int32)) (((if (1 : Int32) < (p2 &&& (2147483647 : Int32)) then (p2 &&& (2147483647 : Int32)) else (1 : Int32)).toInt64) * (1000 : Int64)) ((1 : Int32) + (p3 &&& (1 : Int32))) (((p3.toUInt32 >>> ((1 : Int32) &&& 31).toUInt32).toInt32) &&& (3 : Int32)) (0 : Int32) ((q0 >>> ((2 : Int32) &&& 0x3f).toInt64) - (q4 &&& (1099511627775 : Int64)))) [(.long q1), (.long (q0 >>> ((2 : Int32) &&& 0x3f).toInt64))])) _
      refine X1.ldc2Long hx hown (mvT hZ (hw _ (List.mem_of_getElem? (i := 7) rfl))) (g := (mkF m 71 (LS_JsJsIIJsJsIJsIIIJsuuuu q0 q1 p2 p3 q4 (q0 >>> ((2 : Int32) &&& 0x3f).toInt64) (if (1 : Int32) < (p2 &&& (2147483647 : Int32)) then (p2 &&& (2147483647 : Int32)) else (1 : Int32)) (((if (1 : Int32) < (p2 &&& (2147483647 : Int32)) then (p2 &&& (2147483647 : Int32)) else (1 : Int32)).toInt64) * (1000 : Int64)) ((1 : Int32) + (p3 &&& (1 : Int32))) (((p3.toUInt32 >>> ((1 : Int32) &&& 31).toUInt32).toInt32) &&& (3 : Int32)) (0 : Int32) ((q0 >>> ((2 : Int32) &&& 0x3f).toInt64) - (q4 &&& (1099511627775 : Int64)))) [(.long q1), (.long (q0 >>> ((2 : Int32) &&& 0x3f).toInt64))])) rfl (hb hby at_71) _ ?_
      refine XS.land X1.here hx rfl (hb hby at_74) rfl ?_
      refine XS.ladd X1.here hx rfl (hb hby at_75) rfl ?_
      show Steps p.tables e below (T1.setTop (mkF m 76 (LS_JsJsIIJsJsIJsIIIJsuuuu q0 q1 p2 p3 q4 (q0 >>> ((2 : Int32) &&& 0x3f).toInt64) (if (1 : Int32) < (p2 &&& (2147483647 : Int32)) then (p2 &&& (2147483647 : Int32)) else (1 : Int32)) (((if (1 : Int32) < (p2 &&& (2147483647 : Int32)) then (p2 &&& (2147483647 : Int32)) else (1 : Int32)).toInt64) * (1000 : Int64)) ((1 : Int32) + (p3 &&& (1 : Int32))) (((p3.toUInt32 >>> ((1 : Int32) &&& 31).toUInt32).toInt32) &&& (3 : Int32)) (0 : Int32) ((q0 >>> ((2 : Int32) &&& 0x3f).toInt64) - (q4 &&& (1099511627775 : Int64)))) [(.long ((q0 >>> ((2 : Int32) &&& 0x3f).toInt64) + (q1 &&& (4398046511103 : Int64))))])) _
      refine XS.lstore X1.here hx rfl (hb hby at_76) rfl (l' := (LS_JsJsIIJsJsIJsIIIJsJsuu q0 q1 p2 p3 q4 (q0 >>> ((2 : Int32) &&& 0x3f).toInt64) (if (1 : Int32) < (p2 &&& (2147483647 : Int32)) then (p2 &&& (2147483647 : Int32)) else (1 : Int32)) (((if (1 : Int32) < (p2 &&& (2147483647 : Int32)) then (p2 &&& (2147483647 : Int32)) else (1 : Int32)).toInt64) * (1000 : Int64)) ((1 : Int32) + (p3 &&& (1 : Int32))) (((p3.toUInt32 >>> ((1 : Int32) &&& 31).toUInt32).toInt32) &&& (3 : Int32)) (0 : Int32) ((q0 >>> ((2 : Int32) &&& 0x3f).toInt64) - (q4 &&& (1099511627775 : Int64))) ((q0 >>> ((2 : Int32) &&& 0x3f).toInt64) + (q1 &&& (4398046511103 : Int64))))) rfl ?_
      exact k
    obtain ⟨t0, e_t0⟩ : ∃ z, z = (q0 >>> ((2 : Int32) &&& 0x3f).toInt64) := ⟨_, rfl⟩
    obtain ⟨sc, e_sc⟩ : ∃ z, z = (if (1 : Int32) < (p2 &&& (2147483647 : Int32)) then (p2 &&& (2147483647 : Int32)) else (1 : Int32)) := ⟨_, rfl⟩
    obtain ⟨cp, e_cp⟩ : ∃ z, z = ((1 : Int32) + (p3 &&& (1 : Int32))) := ⟨_, rfl⟩
    obtain ⟨nn, e_nn⟩ : ∃ z, z = (((p3.toUInt32 >>> ((1 : Int32) &&& 31).toUInt32).toInt32) &&& (3 : Int32)) := ⟨_, rfl⟩
    obtain ⟨tp, e_tp⟩ : ∃ z, z = ((q0 >>> ((2 : Int32) &&& 0x3f).toInt64) - (q4 &&& (1099511627775 : Int64))) := ⟨_, rfl⟩
    obtain ⟨qq, e_qq⟩ : ∃ z, z = ((q0 >>> ((2 : Int32) &&& 0x3f).toInt64) + (q1 &&& (4398046511103 : Int64))) := ⟨_, rfl⟩
    refine own_go (B := T1.setTop (mkF m 78 (LS_JsJsIIJsJsIJsIIIJsJsuu q0 q1 p2 p3 q4 t0 sc ((sc.toInt64) * (1000 : Int64)) cp nn (0 : Int32) tp qq) [])) (fun t k => by rw [e_t0, e_sc, e_cp, e_nn, e_tp, e_qq] at k; exact k) ?_
    have hsc : 1 ≤ sc.toInt := by rw [e_sc]; exact own_sec _
    have hw1 := own_wm hsc
    have hcp : 1 ≤ cp.toInt ∧ cp.toInt ≤ 2 := by rw [e_cp]; exact own_cap _
    have hb0 : -2305843009213693952 ≤ t0.toInt ∧ t0.toInt < 2305843009213693952 := by rw [e_t0]; exact own_t0 _
    have ht1 : -4611686018427387904 ≤ t0.toInt := by omega
    have ht2 : t0.toInt ≤ 4611686018427387904 := by omega
    have hep : ((t0 - (q4 &&& (1099511627775 : Int64)))).toInt = t0.toInt - ((q4 &&& (1099511627775 : Int64))).toInt := by
      have hm := Jvm.Kit.i64_mask q4 1099511627775 (k := 40) (by decide) (by decide)
      exact Jvm.Kit.i64_sub (by omega) (by omega)
    have hpp : -4611686018427387904 ≤ tp.toInt ∧ tp.toInt ≤ 4611686018427387904 := by
      have hm := Jvm.Kit.i64_mask q4 1099511627775 (k := 40) (by decide) (by decide)
      rw [e_tp, ← e_t0, hep]
      omega
    have hp1 := hpp.1
    have hp2 := hpp.2
    obtain ⟨T3, h3, X3, e3, E3, A3, D3, -, st3⟩ := newO X1 hx hZ hown (hw _ (List.mem_of_getElem? (i := 8) rfl)) (hw _ (List.mem_of_getElem? (i := 9) rfl)) (hw _ (List.mem_of_getElem? (i := 10) rfl)) e1 (g := (mkF m 78 (LS_JsJsIIJsJsIJsIIIJsJsuu q0 q1 p2 p3 q4 t0 sc ((sc.toInt64) * (1000 : Int64)) cp nn (0 : Int32) tp qq) [])) rfl (hb hby at_78) (by decide) (by decide)
    obtain ⟨b3, g3⟩ : ∃ z, z = h0.size := ⟨_, rfl⟩
    rw [← g3] at A3 D3 st3
    have g_b3 : n0 ≤ b3 := Nat.le_trans Z0 (Nat.le_of_eq g3.symm)
    have F3_rule : Fld Z h3 b3 "com/example/blend2/blend2/FixedWindow" "rule" "Lcom/example/blend2/blend2/Rule;" .null := D3 (Or.inr (hw _ (List.mem_of_getElem? (i := 66) rfl))) (ty := (.object "com/example/blend2/blend2/Rule")) (by decide)
    have F3_windowMillis : Fld Z h3 b3 "com/example/blend2/blend2/FixedWindow" "windowMillis" "J" (.long (0 : Int64)) := D3 (Or.inr (hw _ (List.mem_of_getElem? (i := 74) rfl))) (ty := .long) (by decide)
    have F3_windowStart : Fld Z h3 b3 "com/example/blend2/blend2/FixedWindow" "windowStart" "J" (.long (0 : Int64)) := D3 (Or.inl (hw _ (List.mem_of_getElem? (i := 84) rfl))) (ty := .long) (by decide)
    have F3_admitted : Fld Z h3 b3 "com/example/blend2/blend2/FixedWindow" "admitted" "I" (.int (0 : Int32)) := D3 (Or.inl (hw _ (List.mem_of_getElem? (i := 86) rfl))) (ty := .int) (by decide)
    refine own_go (B := T3.setTop (mkF m 81 (LS_JsJsIIJsJsIJsIIIJsJsuu q0 q1 p2 p3 q4 t0 sc ((sc.toInt64) * (1000 : Int64)) cp nn (0 : Int32) tp qq) [(.ref b3)])) (fun t k => st3 _ k) ?_
    refine own_go (B := T3.setTop (mkF m 82 (LS_JsJsIIJsJsIJsIIIJsJsuu q0 q1 p2 p3 q4 t0 sc ((sc.toInt64) * (1000 : Int64)) cp nn (0 : Int32) tp qq) [(.ref b3), (.ref b3)])) (fun t k => ?_) ?_
    · refine XS.dup X3.here hx rfl (hb hby at_81) rfl rfl ?_
      exact k
    obtain ⟨T4, h4, X4, e4, E4, A4, D4, -, st4⟩ := newO X3 hx hZ hown (hw _ (List.mem_of_getElem? (i := 11) rfl)) (hw _ (List.mem_of_getElem? (i := 12) rfl)) (hw _ (List.mem_of_getElem? (i := 13) rfl)) e3 (g := (mkF m 82 (LS_JsJsIIJsJsIJsIIIJsJsuu q0 q1 p2 p3 q4 t0 sc ((sc.toInt64) * (1000 : Int64)) cp nn (0 : Int32) tp qq) [(.ref b3), (.ref b3)])) rfl (hb hby at_82) (by decide) (by decide)
    obtain ⟨b4, g4⟩ : ∃ z, z = h3.size := ⟨_, rfl⟩
    rw [← g4] at A4 D4 st4
    have Z0_v5 := Nat.le_trans Z0 E3.1
    have g_b4 : n0 ≤ b4 := Nat.le_trans Z0_v5 (Nat.le_of_eq g4.symm)
    have F4_name : Fld Z h4 b4 "com/example/blend2/blend2/Rule" "name" "Ljava/lang/String;" .null := D4 (Or.inr (hw _ (List.mem_of_getElem? (i := 52) rfl))) (ty := (.object "java/lang/String")) (by decide)
    have F4_capacity : Fld Z h4 b4 "com/example/blend2/blend2/Rule" "capacity" "I" (.int (0 : Int32)) := D4 (Or.inr (hw _ (List.mem_of_getElem? (i := 54) rfl))) (ty := .int) (by decide)
    have F4_timeWindowSec : Fld Z h4 b4 "com/example/blend2/blend2/Rule" "timeWindowSec" "I" (.int (0 : Int32)) := D4 (Or.inr (hw _ (List.mem_of_getElem? (i := 56) rfl))) (ty := .int) (by decide)
    have F4_algorithm : Fld Z h4 b4 "com/example/blend2/blend2/Rule" "algorithm" "Lcom/example/blend2/blend2/Algorithm;" .null := D4 (Or.inr (hw _ (List.mem_of_getElem? (i := 58) rfl))) (ty := (.object "com/example/blend2/blend2/Algorithm")) (by decide)
    have F4_onStoreFailure : Fld Z h4 b4 "com/example/blend2/blend2/Rule" "onStoreFailure" "Lcom/example/blend2/blend2/StoreFailurePolicy;" .null := D4 (Or.inr (hw _ (List.mem_of_getElem? (i := 60) rfl))) (ty := (.object "com/example/blend2/blend2/StoreFailurePolicy")) (by decide)
    refine own_go (B := T4.setTop (mkF m 85 (LS_JsJsIIJsJsIJsIIIJsJsuu q0 q1 p2 p3 q4 t0 sc ((sc.toInt64) * (1000 : Int64)) cp nn (0 : Int32) tp qq) [(.ref b4), (.ref b3), (.ref b3)])) (fun t k => st4 _ k) ?_
    refine own_go (B := T4.setTop (mkF m 86 (LS_JsJsIIJsJsIJsIIIJsJsuu q0 q1 p2 p3 q4 t0 sc ((sc.toInt64) * (1000 : Int64)) cp nn (0 : Int32) tp qq) [(.ref b4), (.ref b4), (.ref b3), (.ref b3)])) (fun t k => ?_) ?_
    · refine XS.dup X4.here hx rfl (hb hby at_85) rfl rfl ?_
      exact k
    have hk0_v7 := Nat.le_trans hk0 E3.1
    have hk0_v8 := Nat.le_trans hk0_v7 E4.1
    obtain ⟨sa6, T6, h6, kk6, X6, e6, E6, hS6, hk6, hZ6, ho6, st6⟩ := ldcS (s := s) (vm0 := s.vm) X4 hx hZ hown (hw _ (List.mem_of_getElem? (i := 14) rfl)) (own_strs hw) e4 hS0 hk0_v8 (g := (mkF m 86 (LS_JsJsIIJsJsIJsIIIJsJsuu q0 q1 p2 p3 q4 t0 sc ((sc.toInt64) * (1000 : Int64)) cp nn (0 : Int32) tp qq) [(.ref b4), (.ref b4), (.ref b3), (.ref b3)])) rfl (hb hby at_86) (n := 4) (by decide) (by decide) (by decide) (by decide)
    refine own_go (B := T6.setTop (mkF m 88 (LS_JsJsIIJsJsIJsIIIJsJsuu q0 q1 p2 p3 q4 t0 sc ((sc.toInt64) * (1000 : Int64)) cp nn (0 : Int32) tp qq) [(.ref sa6), (.ref b4), (.ref b4), (.ref b3), (.ref b3)])) (fun t k => st6 _ k) ?_
    refine own_go (B := T6.setTop (mkF m 92 (LS_JsJsIIJsJsIJsIIIJsJsuu q0 q1 p2 p3 q4 t0 sc ((sc.toInt64) * (1000 : Int64)) cp nn (0 : Int32) tp qq) [(.int sc), (.int cp), (.ref sa6), (.ref b4), (.ref b4), (.ref b3), (.ref b3)])) (fun t k => ?_) ?_
    · refine XS.iload X6.here hx rfl (hb hby at_88) rfl ?_
      refine XS.iload X6.here hx rfl (hb hby at_90) rfl ?_
      exact k
    have S_Rule_DEFAULT_ALGORITHM_v9 := S_Rule_DEFAULT_ALGORITHM.ext E3
    have S_Rule_DEFAULT_ALGORITHM_v10 := S_Rule_DEFAULT_ALGORITHM_v9.ext E4
    have S_Rule_DEFAULT_ALGORITHM_v11 := S_Rule_DEFAULT_ALGORITHM_v10.ext E6
    have S_Rule_DEFAULT_STORE_FAILURE_POLICY_v12 := S_Rule_DEFAULT_STORE_FAILURE_POLICY.ext E3
    have S_Rule_DEFAULT_STORE_FAILURE_POLICY_v13 := S_Rule_DEFAULT_STORE_FAILURE_POLICY_v12.ext E4
    have S_Rule_DEFAULT_STORE_FAILURE_POLICY_v14 := S_Rule_DEFAULT_STORE_FAILURE_POLICY_v13.ext E6
    have Z0_v15 := Nat.le_trans Z0_v5 E4.1
    have Z0_v16 := Nat.le_trans Z0_v15 E6.1
    have A4_v17 := A4.ext E6
    have F4_name_v18 := F4_name.ext E6
    have F4_capacity_v19 := F4_capacity.ext E6
    have F4_timeWindowSec_v20 := F4_timeWindowSec.ext E6
    have F4_algorithm_v21 := F4_algorithm.ext E6
    have F4_onStoreFailure_v22 := F4_onStoreFailure.ext E6
    obtain ⟨_, _, ⟨T23, L23, k23, n23⟩, -, X23, hs23, hg23, ⟨Lc23, hQ23, l23, y23, z23⟩, st23⟩ := X6.specialBackS hx (y := (⟨"com/example/blend2/blend2/Rule", "<init>", "(Ljava/lang/String;II)V"⟩ : MethodName)) rfl ho6 (mvT hZ6 (hw _ (List.mem_of_getElem? (i := 22) rfl))) (mvT hZ6 (hw _ (List.mem_of_getElem? (i := 23) rfl))) (mvT hZ6 (hw _ (List.mem_of_getElem? (i := 24) rfl))) (by decide) (backOfS (W := 3) (rmru3 l Z a0 hw [] b4 sa6 cp sc w_Algorithm_SLIDING_WINDOW_LOG w_StoreFailurePolicy_OPEN h6 n0 Z0_v16 S_Rule_DEFAULT_ALGORITHM_v11 S_Rule_DEFAULT_STORE_FAILURE_POLICY_v14 A4_v17 F4_name_v18 F4_capacity_v19 F4_timeWindowSec_v20 F4_algorithm_v21 F4_onStoreFailure_v22 (own_ge1 hcp.1) (own_ge1 hsc) g_b4) hZ6 (hw _ (List.mem_of_getElem? (i := 24) rfl)) (hw _ (List.mem_of_getElem? (i := 13) rfl)) (by decide) (by decide)) (g := (mkF m 92 (LS_JsJsIIJsJsIJsIIIJsJsuu q0 q1 p2 p3 q4 t0 sc ((sc.toInt64) * (1000 : Int64)) cp nn (0 : Int32) tp qq) [(.int sc), (.int cp), (.ref sa6), (.ref b4), (.ref b4), (.ref b3), (.ref b3)])) rfl (by rw [hml]; rfl) (Steps.refl _) (a := b4) (argsL := [(.ref sa6), (.int cp), (.int sc)]) (rest := [(.ref b4), (.ref b3), (.ref b3)]) (lenOf pd__Ljava_lang_String_II_V rfl) rfl (by show 2 * 0 + _ ≤ _; exact Nat.le_of_eq rfl) (hb hby at_92) (fun _ _ => ⟨rfl, e6, (by decide : 4 + 6 ≤ _), (by decide : 17 + 120 ≤ _)⟩)
    dsimp only [Pt.U, Pt.locs, Pt.cells, Pt.slots] at X23 l23 y23 z23 st23 hQ23 hs23 hg23
    subst l23 y23 z23
    have hS23 : s.Since T23.vm T23.heap.size := foldS (s := s) (vm0 := T6.vm) (T := T6) (U := T23) hS6 (by rw [e6]; exact hk6) hs23 hg23
    have hZ23 : Z.Warmed39 (s.setVm T23.vm).vm := State.Warmed39.trans (t := s.setVm T6.vm) hZ6 hs23.1
    have ho23 : (s.setVm T23.vm).vm.findClass "com/example/blend2/blend2/FixedWindowIsIdleAtPinLaw" = some m.cls := by rw [show (s.setVm T23.vm).vm = T23.vm from rfl, hs23.1.alike.findClass]; exact ho6
    obtain ⟨rfl, N23q, K23, Fc23, Ft23⟩ := hQ23
    have N23 := Fr.app N1 N23q
    have hk23 : T23.heap.size ≤ T23.heap.size := Nat.le_refl _
    refine own_go (B := T23.setTop (mkF m 95 (LS_JsJsIIJsJsIJsIIIJsJsuu q0 q1 p2 p3 q4 t0 sc ((sc.toInt64) * (1000 : Int64)) cp nn (0 : Int32) tp qq) [(.ref b4), (.ref b3), (.ref b3)])) (fun t k => st23.trans k) ?_
    have Z0_v24 := Nat.le_trans Z0_v16 K23.1
    have A3_v25 := A3.ext E4
    have A3_v26 := A3_v25.ext E6
    have A3_v27 := A3_v26.keep K23
    have A4_v28 := A4_v17.keep K23
    have F3_rule_v29 := F3_rule.ext E4
    have F3_rule_v30 := F3_rule_v29.ext E6
    have ne32 : b3 ≠ b4 := Nat.ne_of_lt (Nat.lt_of_lt_of_le A3.lt (Nat.le_of_eq g4.symm))
    have F3_rule_v31 := F3_rule_v30.keep K23 (ninS ne32 nin0)
    have F3_windowMillis_v33 := F3_windowMillis.ext E4
    have F3_windowMillis_v34 := F3_windowMillis_v33.ext E6
    have F3_windowMillis_v35 := F3_windowMillis_v34.keep K23 (ninS ne32 nin0)
    have F3_windowStart_v36 := F3_windowStart.ext E4
    have F3_windowStart_v37 := F3_windowStart_v36.ext E6
    have F3_windowStart_v38 := F3_windowStart_v37.keep K23 (ninS ne32 nin0)
    have F3_admitted_v39 := F3_admitted.ext E4
    have F3_admitted_v40 := F3_admitted_v39.ext E6
    have F3_admitted_v41 := F3_admitted_v40.keep K23 (ninS ne32 nin0)
    obtain ⟨_, _, ⟨T42, L42, k42, n42⟩, -, X42, ⟨Lc42, hQ42, l42, y42, z42⟩, st42⟩ := X23.specialBack hx (y := (⟨"com/example/blend2/blend2/FixedWindow", "<init>", "(Lcom/example/blend2/blend2/Rule;)V"⟩ : MethodName)) rfl ho23 (mvT hZ23 (hw _ (List.mem_of_getElem? (i := 61) rfl))) (mvT hZ23 (hw _ (List.mem_of_getElem? (i := 62) rfl))) (mvT hZ23 (hw _ (List.mem_of_getElem? (i := 63) rfl))) (by decide) (backOf (W := 1) (rmfwi l Z a0 hw [] b3 b4 sc T23.heap n0 Z0_v24 A3_v27 A4_v28 Ft23 F3_rule_v31 F3_windowMillis_v35 F3_windowStart_v38 F3_admitted_v41 (Ne.symm ne32) g_b3) hZ23 (hw _ (List.mem_of_getElem? (i := 63) rfl)) (hw _ (List.mem_of_getElem? (i := 10) rfl)) (by decide) (by decide)) (g := (mkF m 95 (LS_JsJsIIJsJsIJsIIIJsJsuu q0 q1 p2 p3 q4 t0 sc ((sc.toInt64) * (1000 : Int64)) cp nn (0 : Int32) tp qq) [(.ref b4), (.ref b3), (.ref b3)])) rfl (by rw [hml]; rfl) (Steps.refl _) (a := b3) (argsL := [(.ref b4)]) (rest := [(.ref b3)]) (lenOf pd__Lcom_example_blend2_blend2_Rule__V rfl) rfl (by show 2 * 0 + _ ≤ _; exact Nat.le_of_eq rfl) (hb hby at_95) (fun _ _ => ⟨rfl, rfl, (by decide : 10 + 0 ≤ _), (by decide : 137 + 0 ≤ _)⟩)
    dsimp only [Pt.U, Pt.locs, Pt.cells, Pt.slots] at X42 l42 y42 z42 st42 hQ42
    subst l42 y42 z42
    obtain ⟨rfl, N42q, K42, Fr42, Fm42, Fs42, Fa42⟩ := hQ42
    have N42 := Fr.app N23 N42q
    refine own_go (B := T42.setTop (mkF m 98 (LS_JsJsIIJsJsIJsIIIJsJsuu q0 q1 p2 p3 q4 t0 sc ((sc.toInt64) * (1000 : Int64)) cp nn (0 : Int32) tp qq) [(.ref b3)])) (fun t k => st42.trans k) ?_
    refine own_go (B := T42.setTop (mkF m 113 (LS_JsJsIIJsJsIJsIIIJsJsRu q0 q1 p2 p3 q4 t0 sc ((sc.toInt64) * (1000 : Int64)) cp nn (0 : Int32) tp qq b3) [])) (fun t k => ?_) ?_
    · refine XS.astore X42.here hx rfl (hb hby at_98) rfl rfl (l' := (LS_JsJsIIJsJsIJsIIIJsJsRu q0 q1 p2 p3 q4 t0 sc ((sc.toInt64) * (1000 : Int64)) cp nn (0 : Int32) tp qq b3)) rfl ?_
      refine XS.iload X42.here hx rfl (hb hby at_100) rfl ?_
      show Steps p.tables e below (T42.setTop (mkF m 102 (LS_JsJsIIJsJsIJsIIIJsJsRu q0 q1 p2 p3 q4 t0 sc ((sc.toInt64) * (1000 : Int64)) cp nn (0 : Int32) tp qq b3) [(.int (0 : Int32))])) _
      refine XS.ifYes X42.here hx rfl (pc0 := 102) (pc' := 113) rfl (hb hby at_102) rfl ((if0 _ _).trans (teq (by decide : (0 : Int32) = (0 : Int32))).1) (by decide) (by decide) ?_
      exact k
    rcases own_and3 ((p3.toUInt32 >>> ((1 : Int32) &&& 31).toUInt32).toInt32) with hk43 | hk43 | hk43 | hk43
    · have hnhk43 : nn = (0 : Int32) := by rw [e_nn]; exact hk43
      refine own_go (B := T42.setTop (mkF m 113 (LS_JsJsIIJsJsIJsIIIJsJsRu q0 q1 p2 p3 q4 t0 sc ((sc.toInt64) * (1000 : Int64)) cp (0 : Int32) (0 : Int32) tp qq b3) [])) (fun t k => by rw [hnhk43]; exact k) ?_
      refine own_go (B := T42.setTop (mkF m 217 (LS_JsJsIIJsJsIJsIIIJsJsRI q0 q1 p2 p3 q4 t0 sc ((sc.toInt64) * (1000 : Int64)) cp (0 : Int32) (0 : Int32) tp qq b3 (1 : Int32)) [(.long qq), (.ref b3)])) (fun t k => ?_) ?_
      · refine XS.iload X42.here hx rfl (hb hby at_113) rfl ?_
        refine XS.ifYes X42.here hx rfl (pc0 := 115) (pc' := 126) rfl (hb hby at_115) rfl ((if0 _ _).trans (flt (by decide : ¬ ((0 : Int32) < (0 : Int32)))).2.2.2) (by decide) (by decide) ?_
        show Steps p.tables e below (T42.setTop (mkF m 126 (LS_JsJsIIJsJsIJsIIIJsJsRu q0 q1 p2 p3 q4 t0 sc ((sc.toInt64) * (1000 : Int64)) cp (0 : Int32) (0 : Int32) tp qq b3) [])) _
        refine XS.iload X42.here hx rfl (hb hby at_126) rfl ?_
        refine XS.iconst X42.here hx rfl (hb hby at_128) ?_
        refine XS.icmpYes X42.here hx rfl (pc0 := 129) (pc' := 140) rfl (hb hby at_129) rfl (flt (by decide : ¬ ((1 : Int32) < (0 : Int32)))).2.2.2 (by decide) (by decide) ?_
        show Steps p.tables e below (T42.setTop (mkF m 140 (LS_JsJsIIJsJsIJsIIIJsJsRu q0 q1 p2 p3 q4 t0 sc ((sc.toInt64) * (1000 : Int64)) cp (0 : Int32) (0 : Int32) tp qq b3) [])) _
        refine XS.iload X42.here hx rfl (hb hby at_140) rfl ?_
        refine XS.iconst X42.here hx rfl (hb hby at_142) ?_
        refine XS.icmpYes X42.here hx rfl (pc0 := 143) (pc' := 154) rfl (hb hby at_143) rfl (flt (by decide : ¬ ((2 : Int32) < (0 : Int32)))).2.2.2 (by decide) (by decide) ?_
        show Steps p.tables e below (T42.setTop (mkF m 154 (LS_JsJsIIJsJsIJsIIIJsJsRu q0 q1 p2 p3 q4 t0 sc ((sc.toInt64) * (1000 : Int64)) cp (0 : Int32) (0 : Int32) tp qq b3) [])) _
        refine XS.iload X42.here hx rfl (hb hby at_154) rfl ?_
        refine XS.ifYes X42.here hx rfl (pc0 := 156) (pc' := 182) rfl (hb hby at_156) rfl ((if0 _ _).trans (flt (by decide : ¬ ((0 : Int32) < (0 : Int32)))).2.2.2) (by decide) (by decide) ?_
        refine XS.iload X42.here hx rfl (hb hby at_182) rfl ?_
        show Steps p.tables e below (T42.setTop (mkF m 184 (LS_JsJsIIJsJsIJsIIIJsJsRu q0 q1 p2 p3 q4 t0 sc ((sc.toInt64) * (1000 : Int64)) cp (0 : Int32) (0 : Int32) tp qq b3) [(.int (0 : Int32))])) _
        refine XS.ifYes X42.here hx rfl (pc0 := 184) (pc' := 210) rfl (hb hby at_184) rfl ((if0 _ _).trans (teq (by decide : (0 : Int32) = (0 : Int32))).1) (by decide) (by decide) ?_
        refine XS.iconst X42.here hx rfl (hb hby at_210) ?_
        refine XS.istore X42.here hx rfl (hb hby at_211) rfl (l' := (LS_JsJsIIJsJsIJsIIIJsJsRI q0 q1 p2 p3 q4 t0 sc ((sc.toInt64) * (1000 : Int64)) cp (0 : Int32) (0 : Int32) tp qq b3 (1 : Int32))) rfl ?_
        show Steps p.tables e below (T42.setTop (mkF m 213 (LS_JsJsIIJsJsIJsIIIJsJsRI q0 q1 p2 p3 q4 t0 sc ((sc.toInt64) * (1000 : Int64)) cp (0 : Int32) (0 : Int32) tp qq b3 (1 : Int32)) [])) _
        refine XS.aload X42.here hx rfl (hb hby at_213) rfl rfl ?_
        refine XS.lload X42.here hx rfl (hb hby at_215) rfl ?_
        exact k
      have Z0_v44 := Nat.le_trans Z0_v24 K42.1
      have A3_v46 := A3_v27.keep K42
      obtain ⟨cq45, kq45, q45a, q45b, q45c⟩ := isOf hZ23 rfl A3_v46
      obtain ⟨_, _, ⟨T45, L45, k45, n45⟩, -, X45, ⟨Lc45, hQ45, l45, y45, z45⟩, st45⟩ := X42.virtualBack hx (y := (⟨"com/example/blend2/blend2/FixedWindow", "isIdleAt", "(J)Z"⟩ : MethodName)) (z := (⟨"com/example/blend2/blend2/FixedWindow", "isIdleAt", "(J)Z"⟩ : MethodName)) ho23 (mvT hZ23 (hw _ (List.mem_of_getElem? (i := 150) rfl))) (mvT hZ23 (hw _ (List.mem_of_getElem? (i := 151) rfl))) (notFace_of_selects (args := #[]) (mvT hZ23 (hw _ (List.mem_of_getElem? (i := 153) rfl)))) (mvT hZ23 (hw _ (List.mem_of_getElem? (i := 153) rfl))) (mvT hZ23 (hw _ (List.mem_of_getElem? (i := 152) rfl))) (by decide) (backOf (W := 0) (rmidl l Z a0 hw [] b3 qq ((sc.toInt64) * (1000 : Int64)) (0 : Int64) (0 : Int32) T42.heap n0 Z0_v44 Fa42 Fs42 Fm42) hZ23 (hw _ (List.mem_of_getElem? (i := 154) rfl)) (hw _ (List.mem_of_getElem? (i := 10) rfl)) (by decide) (by decide)) q45a q45c (g := (mkF m 217 (LS_JsJsIIJsJsIJsIIIJsJsRI q0 q1 p2 p3 q4 t0 sc ((sc.toInt64) * (1000 : Int64)) cp (0 : Int32) (0 : Int32) tp qq b3 (1 : Int32)) [(.long qq), (.ref b3)])) rfl (by rw [hml]; rfl) (Steps.refl _) (argsL := [(.long qq)]) (rest := []) (lenOf pd__J_Z rfl) rfl (by show 2 * 0 + _ ≤ _; exact Nat.le_of_eq rfl) (hb hby at_217) (fun _ _ => ⟨rfl, rfl, (by decide : 10 + 0 ≤ _), (by decide : 137 + 0 ≤ _)⟩)
      dsimp only [Pt.U, Pt.locs, Pt.cells, Pt.slots] at X45 l45 y45 z45 st45 hQ45
      subst l45 y45 z45
      obtain ⟨rfl, N45q, e45⟩ := hQ45
      have N45 := Fr.app N42 N45q
      refine own_go (B := T45.setTop (mkF m 220 (LS_JsJsIIJsJsIJsIIIJsJsRI q0 q1 p2 p3 q4 t0 sc ((sc.toInt64) * (1000 : Int64)) cp (0 : Int32) (0 : Int32) tp qq b3 (1 : Int32)) [(.int (if (0 : Int32) = (0 : Int32) then (1 : Int32) else if qq < ((0 : Int64) + ((sc.toInt64) * (1000 : Int64))) then (0 : Int32) else (1 : Int32)))])) (fun t k => st45.trans k) ?_
      refine own_go (B := T45.setTop (mkF m 230 (LS_JsJsIIJsJsIJsIIIJsJsRI q0 q1 p2 p3 q4 t0 sc ((sc.toInt64) * (1000 : Int64)) cp (0 : Int32) (0 : Int32) tp qq b3 (1 : Int32)) [(.int (1 : Int32))])) (fun t k => ?_) ?_
      · refine XS.iload X45.here hx rfl (hb hby at_220) rfl ?_
        refine XS.icmpNo X45.here hx rfl (hb hby at_222) rfl (teq (if_pos rfl)).2 ?_
        show Steps p.tables e below (T45.setTop (mkF m 225 (LS_JsJsIIJsJsIJsIIIJsJsRI q0 q1 p2 p3 q4 t0 sc ((sc.toInt64) * (1000 : Int64)) cp (0 : Int32) (0 : Int32) tp qq b3 (1 : Int32)) [])) _
        refine XS.iconst X45.here hx rfl (hb hby at_225) ?_
        refine XS.goto X45.here hx rfl (pc0 := 226) (pc' := 230) rfl (hb hby at_226) (by decide) (by decide) ?_
        exact k
      have hk23_v47 := Nat.le_trans hk23 K42.1
      obtain ⟨fs, hr, hrun, hended, hRW⟩ := Stand.leaveW (s := s) (vm₁ := T23.vm) X45 hS23 (by rw [e45]; exact hk23_v47) (v := some (.int (1 : Int32))) (fun h => by rw [Bd.returns] at h; cases h)
      refine ⟨_, _, ?_, hrun, hended, _, _, rfl, ?_, hRW.1, hRW.2.1, hRW.2.2.1, hRW.2.2.2.mono (by decide) (by decide)⟩
      · show Steps p.tables e below (T45.setTop (mkF m 230 (LS_JsJsIIJsJsIJsIIIJsJsRI q0 q1 p2 p3 q4 t0 sc ((sc.toInt64) * (1000 : Int64)) cp (0 : Int32) (0 : Int32) tp qq b3 (1 : Int32)) [(.int (1 : Int32))])) _
        exact retN X45 hx (t := .boolean) Bd.returns (by simp) (hb hby at_230) hr
      · show Q0 Z q0 q1 p2 p3 q4 w_Algorithm_SLIDING_WINDOW_LOG w_StoreFailurePolicy_OPEN w_Duration_ZERO h0 n0 _ T45.heap _
        rw [e45]
        exact ⟨rfl, N45⟩
    · have hnhk43 : nn = (1 : Int32) := by rw [e_nn]; exact hk43
      refine own_go (B := T42.setTop (mkF m 113 (LS_JsJsIIJsJsIJsIIIJsJsRu q0 q1 p2 p3 q4 t0 sc ((sc.toInt64) * (1000 : Int64)) cp (1 : Int32) (0 : Int32) tp qq b3) [])) (fun t k => by rw [hnhk43]; exact k) ?_
      refine own_go (B := T42.setTop (mkF m 122 (LS_JsJsIIJsJsIJsIIIJsJsRu q0 q1 p2 p3 q4 t0 sc ((sc.toInt64) * (1000 : Int64)) cp (1 : Int32) (0 : Int32) tp qq b3) [(.long t0), (.ref b3)])) (fun t k => ?_) ?_
      · refine XS.iload X42.here hx rfl (hb hby at_113) rfl ?_
        refine XS.ifNo X42.here hx rfl (hb hby at_115) rfl ((if0 _ _).trans (tlt (by decide : (0 : Int32) < (1 : Int32))).2.2.2) ?_
        show Steps p.tables e below (T42.setTop (mkF m 118 (LS_JsJsIIJsJsIJsIIIJsJsRu q0 q1 p2 p3 q4 t0 sc ((sc.toInt64) * (1000 : Int64)) cp (1 : Int32) (0 : Int32) tp qq b3) [])) _
        refine XS.aload X42.here hx rfl (hb hby at_118) rfl rfl ?_
        refine XS.lload X42.here hx rfl (hb hby at_120) rfl ?_
        exact k
      have Z0_v48 := Nat.le_trans Z0_v24 K42.1
      have S_Duration_ZERO_v49 := S_Duration_ZERO.ext E3
      have S_Duration_ZERO_v50 := S_Duration_ZERO_v49.ext E4
      have S_Duration_ZERO_v51 := S_Duration_ZERO_v50.ext E6
      have S_Duration_ZERO_v52 := own_sta_keep S_Duration_ZERO_v51 K23 (allS (own_plain_E A4_v17) all0)
      have S_Duration_ZERO_v53 := own_sta_keep S_Duration_ZERO_v52 K42 (allS (own_plain_E A3_v27) all0)
      have E_Duration_ZERO_v54 := E_Duration_ZERO.ext E3
      have E_Duration_ZERO_v55 := E_Duration_ZERO_v54.ext E4
      have E_Duration_ZERO_v56 := E_Duration_ZERO_v55.ext E6
      have E_Duration_ZERO_v57 := E_Duration_ZERO_v56.keep K23
      have E_Duration_ZERO_v58 := E_Duration_ZERO_v57.keep K42
      have F_Duration_ZERO_seconds_v59 := F_Duration_ZERO_seconds.ext E3
      have F_Duration_ZERO_seconds_v60 := F_Duration_ZERO_seconds_v59.ext E4
      have F_Duration_ZERO_seconds_v61 := F_Duration_ZERO_seconds_v60.ext E6
      have ne63 : w_Duration_ZERO ≠ b4 := Nat.ne_of_lt (Nat.lt_of_lt_of_le F_Duration_ZERO_seconds_v59.lt (Nat.le_of_eq g4.symm))
      have F_Duration_ZERO_seconds_v62 := F_Duration_ZERO_seconds_v61.keep K23 (ninS ne63 nin0)
      have ne65 : w_Duration_ZERO ≠ b3 := Nat.ne_of_lt (Nat.lt_of_lt_of_le F_Duration_ZERO_seconds.lt (Nat.le_of_eq g3.symm))
      have F_Duration_ZERO_seconds_v64 := F_Duration_ZERO_seconds_v62.keep K42 (ninS ne65 nin0)
      have A3_v66 := A3_v27.keep K42
      have A4_v67 := A4_v28.keep K42
      have Fc23_v68 := Fc23.keep K42 (ninS (Ne.symm ne32) nin0)
      obtain ⟨cq69, kq69, q69a, q69b, q69c⟩ := isOf hZ23 rfl A3_v66
      obtain ⟨_, _, ⟨T69, L69, k69, n69⟩, -, X69, hs69, hg69, ⟨Lc69, hQ69, l69, y69, z69⟩, st69⟩ := X42.virtualBackS hx (y := (⟨"com/example/blend2/blend2/FixedWindow", "decide", "(J)Lcom/example/blend2/blend2/Decision;"⟩ : MethodName)) (z := (⟨"com/example/blend2/blend2/FixedWindow", "decide", "(J)Lcom/example/blend2/blend2/Decision;"⟩ : MethodName)) ho23 (mvT hZ23 (hw _ (List.mem_of_getElem? (i := 75) rfl))) (mvT hZ23 (hw _ (List.mem_of_getElem? (i := 76) rfl))) (notFace_of_selects (args := #[]) (mvT hZ23 (hw _ (List.mem_of_getElem? (i := 78) rfl)))) (mvT hZ23 (hw _ (List.mem_of_getElem? (i := 78) rfl))) (mvT hZ23 (hw _ (List.mem_of_getElem? (i := 77) rfl))) (by decide) (backOfS (W := 0) (rmdec l Z a0 hw [] b3 t0 b4 w_Duration_ZERO ((sc.toInt64) * (1000 : Int64)) (0 : Int64) (0 : Int32) cp T42.heap n0 Z0_v48 S_Duration_ZERO_v53 E_Duration_ZERO_v58 F_Duration_ZERO_seconds_v64 A3_v66 A4_v67 Fc23_v68 Fr42 Fm42 Fs42 Fa42 (Ne.symm ne32) ne65 g_b3 hw1 ht1 ht2 hcp ⟨by decide, Int.le_trans (by decide) hcp.1⟩) hZ23 (hw _ (List.mem_of_getElem? (i := 79) rfl)) (hw _ (List.mem_of_getElem? (i := 10) rfl)) (by decide) (by decide)) q69a q69c (g := (mkF m 122 (LS_JsJsIIJsJsIJsIIIJsJsRu q0 q1 p2 p3 q4 t0 sc ((sc.toInt64) * (1000 : Int64)) cp (1 : Int32) (0 : Int32) tp qq b3) [(.long t0), (.ref b3)])) rfl (by rw [hml]; rfl) (Steps.refl _) (argsL := [(.long t0)]) (rest := []) (lenOf pd__J_Lcom_example_blend2_blend2_Decision_ rfl) rfl (by show 2 * 0 + _ ≤ _; exact Nat.le_of_eq rfl) (hb hby at_122) (fun _ _ => ⟨rfl, rfl, (by decide : 10 + 9 ≤ _), (by decide : 137 + 97 ≤ _)⟩)
      dsimp only [Pt.U, Pt.locs, Pt.cells, Pt.slots] at X69 l69 y69 z69 st69 hQ69 hs69 hg69
      subst l69 y69 z69
      have hk23_v70 := Nat.le_trans hk23 K42.1
      have hS69 : s.Since T69.vm T69.heap.size := foldS (s := s) (vm0 := T23.vm) (T := T42) (U := T69) hS23 hk23_v70 hs69 hg69
      have hZ69 : Z.Warmed39 (s.setVm T69.vm).vm := State.Warmed39.trans (t := s.setVm T23.vm) hZ23 hs69.1
      have ho69 : (s.setVm T69.vm).vm.findClass "com/example/blend2/blend2/FixedWindowIsIdleAtPinLaw" = some m.cls := by rw [show (s.setVm T69.vm).vm = T69.vm from rfl, hs69.1.alike.findClass]; exact ho23
      obtain ⟨o69, ad69, rfl, N69q, K69, Fr69, Fm69, Fs69, Fa69, hb69⟩ := hQ69
      have N69 := Fr.app N42 N69q
      have hk69 : T69.heap.size ≤ T69.heap.size := Nat.le_refl _
      refine own_go (B := T69.setTop (mkF m 125 (LS_JsJsIIJsJsIJsIIIJsJsRu q0 q1 p2 p3 q4 t0 sc ((sc.toInt64) * (1000 : Int64)) cp (1 : Int32) (0 : Int32) tp qq b3) [(.ref o69)])) (fun t k => st69.trans k) ?_
      refine own_go (B := T69.setTop (mkF m 165 (LS_JsJsIIJsJsIJsIIIJsJsRu q0 q1 p2 p3 q4 t0 sc ((sc.toInt64) * (1000 : Int64)) cp (1 : Int32) (0 : Int32) tp qq b3) [(.long ((sc.toInt64) * (1000 : Int64))), (.long t0), (.long qq)])) (fun t k => ?_) ?_
      · refine XS.pop X69.here hx rfl (hb hby at_125) rfl rfl ?_
        refine XS.iload X69.here hx rfl (hb hby at_126) rfl ?_
        show Steps p.tables e below (T69.setTop (mkF m 128 (LS_JsJsIIJsJsIJsIIIJsJsRu q0 q1 p2 p3 q4 t0 sc ((sc.toInt64) * (1000 : Int64)) cp (1 : Int32) (0 : Int32) tp qq b3) [(.int (1 : Int32))])) _
        refine XS.iconst X69.here hx rfl (hb hby at_128) ?_
        refine XS.icmpYes X69.here hx rfl (pc0 := 129) (pc' := 140) rfl (hb hby at_129) rfl (flt (by decide : ¬ ((1 : Int32) < (1 : Int32)))).2.2.2 (by decide) (by decide) ?_
        refine XS.iload X69.here hx rfl (hb hby at_140) rfl ?_
        show Steps p.tables e below (T69.setTop (mkF m 142 (LS_JsJsIIJsJsIJsIIIJsJsRu q0 q1 p2 p3 q4 t0 sc ((sc.toInt64) * (1000 : Int64)) cp (1 : Int32) (0 : Int32) tp qq b3) [(.int (1 : Int32))])) _
        refine XS.iconst X69.here hx rfl (hb hby at_142) ?_
        refine XS.icmpYes X69.here hx rfl (pc0 := 143) (pc' := 154) rfl (hb hby at_143) rfl (flt (by decide : ¬ ((2 : Int32) < (1 : Int32)))).2.2.2 (by decide) (by decide) ?_
        refine XS.iload X69.here hx rfl (hb hby at_154) rfl ?_
        show Steps p.tables e below (T69.setTop (mkF m 156 (LS_JsJsIIJsJsIJsIIIJsJsRu q0 q1 p2 p3 q4 t0 sc ((sc.toInt64) * (1000 : Int64)) cp (1 : Int32) (0 : Int32) tp qq b3) [(.int (1 : Int32))])) _
        refine XS.ifNo X69.here hx rfl (hb hby at_156) rfl ((if0 _ _).trans (tlt (by decide : (0 : Int32) < (1 : Int32))).2.2.2) ?_
        refine XS.lload X69.here hx rfl (hb hby at_159) rfl ?_
        refine XS.lload X69.here hx rfl (hb hby at_161) rfl ?_
        show Steps p.tables e below (T69.setTop (mkF m 163 (LS_JsJsIIJsJsIJsIIIJsJsRu q0 q1 p2 p3 q4 t0 sc ((sc.toInt64) * (1000 : Int64)) cp (1 : Int32) (0 : Int32) tp qq b3) [(.long t0), (.long qq)])) _
        refine XS.lload X69.here hx rfl (hb hby at_163) rfl ?_
        exact k
      have Z0_v71 := Nat.le_trans Z0_v48 K69.1
      obtain ⟨_, _, ⟨T72, L72, k72, n72⟩, -, X72, ⟨Lc72, hQ72, l72, y72, z72⟩, st72⟩ := Jvm.LawKit.callS X69 hx (y := (⟨"com/example/blend2/blend2/FixedWindowIsIdleAtPinLaw", "windowEnd", "(JJ)J"⟩ : MethodName)) ho69 (mvT hZ69 (hw _ (List.mem_of_getElem? (i := 146) rfl))) (mvT hZ69 (hw _ (List.mem_of_getElem? (i := 147) rfl))) (mvT hZ69 (hw _ (List.mem_of_getElem? (i := 148) rfl))) (mvT hZ69 (hw _ (List.mem_of_getElem? (i := 149) rfl))) (by decide) (backOf (W := 2) (rmwen l Z a0 hw [] t0 ((sc.toInt64) * (1000 : Int64)) T69.heap n0 Z0_v71 (own_ne0 hw1)) hZ69 (hw _ (List.mem_of_getElem? (i := 149) rfl)) (hw _ (List.mem_of_getElem? (i := 148) rfl)) (by decide) (by decide)) (g := (mkF m 165 (LS_JsJsIIJsJsIJsIIIJsJsRu q0 q1 p2 p3 q4 t0 sc ((sc.toInt64) * (1000 : Int64)) cp (1 : Int32) (0 : Int32) tp qq b3) [(.long ((sc.toInt64) * (1000 : Int64))), (.long t0), (.long qq)])) rfl (by rw [hml]; rfl) (argsL := [(.long t0), (.long ((sc.toInt64) * (1000 : Int64)))]) (rest := [(.long qq)]) (lenOf pd__JJ_J rfl) rfl (by show 2 * 0 + _ ≤ _; exact Nat.le_of_eq rfl) (hb hby at_165) (fun _ _ => ⟨rfl, rfl, (by decide : 19 + 0 ≤ _), (by decide : 234 + 0 ≤ _)⟩)
      dsimp only [Pt.U, Pt.locs, Pt.cells, Pt.slots] at X72 l72 y72 z72 st72 hQ72
      subst l72 y72 z72
      obtain ⟨rfl, N72q, e72⟩ := hQ72
      have N72 := Fr.app N69 N72q
      refine own_go (B := T72.setTop (mkF m 168 (LS_JsJsIIJsJsIJsIIIJsJsRu q0 q1 p2 p3 q4 t0 sc ((sc.toInt64) * (1000 : Int64)) cp (1 : Int32) (0 : Int32) tp qq b3) [(.long (own_we t0 ((sc.toInt64) * (1000 : Int64)))), (.long qq)])) (fun t k => st72 _ k) ?_
      refine own_go (B := T72.setTop (mkF m 169 (LS_JsJsIIJsJsIJsIIIJsJsRu q0 q1 p2 p3 q4 t0 sc ((sc.toInt64) * (1000 : Int64)) cp (1 : Int32) (0 : Int32) tp qq b3) [(.int (lcmpW qq (own_we t0 ((sc.toInt64) * (1000 : Int64)))))])) (fun t k => ?_) ?_
      · refine XS.lcmp X72.here hx rfl (hb hby at_168) rfl ?_
        exact k
      by_cases hc169_73 : qq < (own_we t0 ((sc.toInt64) * (1000 : Int64)))
      · refine own_go (B := T72.setTop (mkF m 217 (LS_JsJsIIJsJsIJsIIIJsJsRI q0 q1 p2 p3 q4 t0 sc ((sc.toInt64) * (1000 : Int64)) cp (1 : Int32) (0 : Int32) tp qq b3 (0 : Int32)) [(.long qq), (.ref b3)])) (fun t k => ?_) ?_
        · refine XS.ifYes X72.here hx rfl (pc0 := 169) (pc' := 176) rfl (hb hby at_169) rfl ((if0 _ _).trans (tlt ((lw_lt qq (own_we t0 ((sc.toInt64) * (1000 : Int64)))).mpr hc169_73)).1) (by decide) (by decide) ?_
          refine XS.iconst X72.here hx rfl (hb hby at_176) ?_
          show Steps p.tables e below (T72.setTop (mkF m 177 (LS_JsJsIIJsJsIJsIIIJsJsRu q0 q1 p2 p3 q4 t0 sc ((sc.toInt64) * (1000 : Int64)) cp (1 : Int32) (0 : Int32) tp qq b3) [(.int (0 : Int32))])) _
          refine XS.istore X72.here hx rfl (hb hby at_177) rfl (l' := (LS_JsJsIIJsJsIJsIIIJsJsRI q0 q1 p2 p3 q4 t0 sc ((sc.toInt64) * (1000 : Int64)) cp (1 : Int32) (0 : Int32) tp qq b3 (0 : Int32))) rfl ?_
          refine XS.goto X72.here hx rfl (pc0 := 179) (pc' := 213) rfl (hb hby at_179) (by decide) (by decide) ?_
          refine XS.aload X72.here hx rfl (hb hby at_213) rfl rfl ?_
          show Steps p.tables e below (T72.setTop (mkF m 215 (LS_JsJsIIJsJsIJsIIIJsJsRI q0 q1 p2 p3 q4 t0 sc ((sc.toInt64) * (1000 : Int64)) cp (1 : Int32) (0 : Int32) tp qq b3 (0 : Int32)) [(.ref b3)])) _
          refine XS.lload X72.here hx rfl (hb hby at_215) rfl ?_
          exact k
        have A3_v75 := A3_v66.keep K69
        obtain ⟨cq74, kq74, q74a, q74b, q74c⟩ := isOf hZ69 e72 A3_v75
        obtain ⟨_, _, ⟨T74, L74, k74, n74⟩, -, X74, ⟨Lc74, hQ74, l74, y74, z74⟩, st74⟩ := X72.virtualBack hx (y := (⟨"com/example/blend2/blend2/FixedWindow", "isIdleAt", "(J)Z"⟩ : MethodName)) (z := (⟨"com/example/blend2/blend2/FixedWindow", "isIdleAt", "(J)Z"⟩ : MethodName)) ho69 (mvT hZ69 (hw _ (List.mem_of_getElem? (i := 150) rfl))) (mvT hZ69 (hw _ (List.mem_of_getElem? (i := 151) rfl))) (notFace_of_selects (args := #[]) (mvT hZ69 (hw _ (List.mem_of_getElem? (i := 153) rfl)))) (mvT hZ69 (hw _ (List.mem_of_getElem? (i := 153) rfl))) (mvT hZ69 (hw _ (List.mem_of_getElem? (i := 152) rfl))) (by decide) (backOf (W := 0) (rmidl l Z a0 hw [] b3 qq ((sc.toInt64) * (1000 : Int64)) ((own_fd t0 ((sc.toInt64) * (1000 : Int64))) * ((sc.toInt64) * (1000 : Int64))) ad69 T69.heap n0 Z0_v71 Fa69 Fs69 Fm69) hZ69 (hw _ (List.mem_of_getElem? (i := 154) rfl)) (hw _ (List.mem_of_getElem? (i := 10) rfl)) (by decide) (by decide)) q74a q74c (g := (mkF m 217 (LS_JsJsIIJsJsIJsIIIJsJsRI q0 q1 p2 p3 q4 t0 sc ((sc.toInt64) * (1000 : Int64)) cp (1 : Int32) (0 : Int32) tp qq b3 (0 : Int32)) [(.long qq), (.ref b3)])) rfl (by rw [hml]; rfl) (Steps.refl _) (argsL := [(.long qq)]) (rest := []) (lenOf pd__J_Z rfl) rfl (by show 2 * 0 + _ ≤ _; exact Nat.le_of_eq rfl) (hb hby at_217) (fun _ _ => ⟨rfl, e72, (by decide : 19 + 0 ≤ _), (by decide : 234 + 0 ≤ _)⟩)
        dsimp only [Pt.U, Pt.locs, Pt.cells, Pt.slots] at X74 l74 y74 z74 st74 hQ74
        subst l74 y74 z74
        obtain ⟨rfl, N74q, e74⟩ := hQ74
        have N74 := Fr.app N72 N74q
        refine own_go (B := T74.setTop (mkF m 220 (LS_JsJsIIJsJsIJsIIIJsJsRI q0 q1 p2 p3 q4 t0 sc ((sc.toInt64) * (1000 : Int64)) cp (1 : Int32) (0 : Int32) tp qq b3 (0 : Int32)) [(.int (if ad69 = (0 : Int32) then (1 : Int32) else if qq < (((own_fd t0 ((sc.toInt64) * (1000 : Int64))) * ((sc.toInt64) * (1000 : Int64))) + ((sc.toInt64) * (1000 : Int64))) then (0 : Int32) else (1 : Int32)))])) (fun t k => st74.trans k) ?_
        refine own_go (B := T74.setTop (mkF m 230 (LS_JsJsIIJsJsIJsIIIJsJsRI q0 q1 p2 p3 q4 t0 sc ((sc.toInt64) * (1000 : Int64)) cp (1 : Int32) (0 : Int32) tp qq b3 (0 : Int32)) [(.int (1 : Int32))])) (fun t k => ?_) ?_
        · refine XS.iload X74.here hx rfl (hb hby at_220) rfl ?_
          refine XS.icmpNo X74.here hx rfl (hb hby at_222) rfl (teq (own_fin (own_n0 hb69) (own_same hw1 ht1 ht2) hc169_73)).2 ?_
          show Steps p.tables e below (T74.setTop (mkF m 225 (LS_JsJsIIJsJsIJsIIIJsJsRI q0 q1 p2 p3 q4 t0 sc ((sc.toInt64) * (1000 : Int64)) cp (1 : Int32) (0 : Int32) tp qq b3 (0 : Int32)) [])) _
          refine XS.iconst X74.here hx rfl (hb hby at_225) ?_
          refine XS.goto X74.here hx rfl (pc0 := 226) (pc' := 230) rfl (hb hby at_226) (by decide) (by decide) ?_
          exact k
        obtain ⟨fs, hr, hrun, hended, hRW⟩ := Stand.leaveW (s := s) (vm₁ := T69.vm) X74 hS69 (by rw [e74]; exact hk69) (v := some (.int (1 : Int32))) (fun h => by rw [Bd.returns] at h; cases h)
        refine ⟨_, _, ?_, hrun, hended, _, _, rfl, ?_, hRW.1, hRW.2.1, hRW.2.2.1, hRW.2.2.2.mono (by decide) (by decide)⟩
        · show Steps p.tables e below (T74.setTop (mkF m 230 (LS_JsJsIIJsJsIJsIIIJsJsRI q0 q1 p2 p3 q4 t0 sc ((sc.toInt64) * (1000 : Int64)) cp (1 : Int32) (0 : Int32) tp qq b3 (0 : Int32)) [(.int (1 : Int32))])) _
          exact retN X74 hx (t := .boolean) Bd.returns (by simp) (hb hby at_230) hr
        · show Q0 Z q0 q1 p2 p3 q4 w_Algorithm_SLIDING_WINDOW_LOG w_StoreFailurePolicy_OPEN w_Duration_ZERO h0 n0 _ T74.heap _
          rw [e74]
          exact ⟨rfl, N74⟩
      · refine own_go (B := T72.setTop (mkF m 217 (LS_JsJsIIJsJsIJsIIIJsJsRI q0 q1 p2 p3 q4 t0 sc ((sc.toInt64) * (1000 : Int64)) cp (1 : Int32) (0 : Int32) tp qq b3 (1 : Int32)) [(.long qq), (.ref b3)])) (fun t k => ?_) ?_
        · refine XS.ifNo X72.here hx rfl (hb hby at_169) rfl ((if0 _ _).trans (flt (fun q => hc169_73 ((lw_lt qq (own_we t0 ((sc.toInt64) * (1000 : Int64)))).mp q))).1) ?_
          refine XS.iconst X72.here hx rfl (hb hby at_172) ?_
          show Steps p.tables e below (T72.setTop (mkF m 173 (LS_JsJsIIJsJsIJsIIIJsJsRu q0 q1 p2 p3 q4 t0 sc ((sc.toInt64) * (1000 : Int64)) cp (1 : Int32) (0 : Int32) tp qq b3) [(.int (1 : Int32))])) _
          refine XS.goto X72.here hx rfl (pc0 := 173) (pc' := 177) rfl (hb hby at_173) (by decide) (by decide) ?_
          refine XS.istore X72.here hx rfl (hb hby at_177) rfl (l' := (LS_JsJsIIJsJsIJsIIIJsJsRI q0 q1 p2 p3 q4 t0 sc ((sc.toInt64) * (1000 : Int64)) cp (1 : Int32) (0 : Int32) tp qq b3 (1 : Int32))) rfl ?_
          refine XS.goto X72.here hx rfl (pc0 := 179) (pc' := 213) rfl (hb hby at_179) (by decide) (by decide) ?_
          show Steps p.tables e below (T72.setTop (mkF m 213 (LS_JsJsIIJsJsIJsIIIJsJsRI q0 q1 p2 p3 q4 t0 sc ((sc.toInt64) * (1000 : Int64)) cp (1 : Int32) (0 : Int32) tp qq b3 (1 : Int32)) [])) _
          refine XS.aload X72.here hx rfl (hb hby at_213) rfl rfl ?_
          refine XS.lload X72.here hx rfl (hb hby at_215) rfl ?_
          exact k
        have A3_v77 := A3_v66.keep K69
        obtain ⟨cq76, kq76, q76a, q76b, q76c⟩ := isOf hZ69 e72 A3_v77
        obtain ⟨_, _, ⟨T76, L76, k76, n76⟩, -, X76, ⟨Lc76, hQ76, l76, y76, z76⟩, st76⟩ := X72.virtualBack hx (y := (⟨"com/example/blend2/blend2/FixedWindow", "isIdleAt", "(J)Z"⟩ : MethodName)) (z := (⟨"com/example/blend2/blend2/FixedWindow", "isIdleAt", "(J)Z"⟩ : MethodName)) ho69 (mvT hZ69 (hw _ (List.mem_of_getElem? (i := 150) rfl))) (mvT hZ69 (hw _ (List.mem_of_getElem? (i := 151) rfl))) (notFace_of_selects (args := #[]) (mvT hZ69 (hw _ (List.mem_of_getElem? (i := 153) rfl)))) (mvT hZ69 (hw _ (List.mem_of_getElem? (i := 153) rfl))) (mvT hZ69 (hw _ (List.mem_of_getElem? (i := 152) rfl))) (by decide) (backOf (W := 0) (rmidl l Z a0 hw [] b3 qq ((sc.toInt64) * (1000 : Int64)) ((own_fd t0 ((sc.toInt64) * (1000 : Int64))) * ((sc.toInt64) * (1000 : Int64))) ad69 T69.heap n0 Z0_v71 Fa69 Fs69 Fm69) hZ69 (hw _ (List.mem_of_getElem? (i := 154) rfl)) (hw _ (List.mem_of_getElem? (i := 10) rfl)) (by decide) (by decide)) q76a q76c (g := (mkF m 217 (LS_JsJsIIJsJsIJsIIIJsJsRI q0 q1 p2 p3 q4 t0 sc ((sc.toInt64) * (1000 : Int64)) cp (1 : Int32) (0 : Int32) tp qq b3 (1 : Int32)) [(.long qq), (.ref b3)])) rfl (by rw [hml]; rfl) (Steps.refl _) (argsL := [(.long qq)]) (rest := []) (lenOf pd__J_Z rfl) rfl (by show 2 * 0 + _ ≤ _; exact Nat.le_of_eq rfl) (hb hby at_217) (fun _ _ => ⟨rfl, e72, (by decide : 19 + 0 ≤ _), (by decide : 234 + 0 ≤ _)⟩)
        dsimp only [Pt.U, Pt.locs, Pt.cells, Pt.slots] at X76 l76 y76 z76 st76 hQ76
        subst l76 y76 z76
        obtain ⟨rfl, N76q, e76⟩ := hQ76
        have N76 := Fr.app N72 N76q
        refine own_go (B := T76.setTop (mkF m 220 (LS_JsJsIIJsJsIJsIIIJsJsRI q0 q1 p2 p3 q4 t0 sc ((sc.toInt64) * (1000 : Int64)) cp (1 : Int32) (0 : Int32) tp qq b3 (1 : Int32)) [(.int (if ad69 = (0 : Int32) then (1 : Int32) else if qq < (((own_fd t0 ((sc.toInt64) * (1000 : Int64))) * ((sc.toInt64) * (1000 : Int64))) + ((sc.toInt64) * (1000 : Int64))) then (0 : Int32) else (1 : Int32)))])) (fun t k => st76.trans k) ?_
        refine own_go (B := T76.setTop (mkF m 230 (LS_JsJsIIJsJsIJsIIIJsJsRI q0 q1 p2 p3 q4 t0 sc ((sc.toInt64) * (1000 : Int64)) cp (1 : Int32) (0 : Int32) tp qq b3 (1 : Int32)) [(.int (1 : Int32))])) (fun t k => ?_) ?_
        · refine XS.iload X76.here hx rfl (hb hby at_220) rfl ?_
          refine XS.icmpNo X76.here hx rfl (hb hby at_222) rfl (teq (own_fin2 (own_n0 hb69) (own_same hw1 ht1 ht2) hc169_73)).2 ?_
          show Steps p.tables e below (T76.setTop (mkF m 225 (LS_JsJsIIJsJsIJsIIIJsJsRI q0 q1 p2 p3 q4 t0 sc ((sc.toInt64) * (1000 : Int64)) cp (1 : Int32) (0 : Int32) tp qq b3 (1 : Int32)) [])) _
          refine XS.iconst X76.here hx rfl (hb hby at_225) ?_
          refine XS.goto X76.here hx rfl (pc0 := 226) (pc' := 230) rfl (hb hby at_226) (by decide) (by decide) ?_
          exact k
        obtain ⟨fs, hr, hrun, hended, hRW⟩ := Stand.leaveW (s := s) (vm₁ := T69.vm) X76 hS69 (by rw [e76]; exact hk69) (v := some (.int (1 : Int32))) (fun h => by rw [Bd.returns] at h; cases h)
        refine ⟨_, _, ?_, hrun, hended, _, _, rfl, ?_, hRW.1, hRW.2.1, hRW.2.2.1, hRW.2.2.2.mono (by decide) (by decide)⟩
        · show Steps p.tables e below (T76.setTop (mkF m 230 (LS_JsJsIIJsJsIJsIIIJsJsRI q0 q1 p2 p3 q4 t0 sc ((sc.toInt64) * (1000 : Int64)) cp (1 : Int32) (0 : Int32) tp qq b3 (1 : Int32)) [(.int (1 : Int32))])) _
          exact retN X76 hx (t := .boolean) Bd.returns (by simp) (hb hby at_230) hr
        · show Q0 Z q0 q1 p2 p3 q4 w_Algorithm_SLIDING_WINDOW_LOG w_StoreFailurePolicy_OPEN w_Duration_ZERO h0 n0 _ T76.heap _
          rw [e76]
          exact ⟨rfl, N76⟩
    · have hnhk43 : nn = (2 : Int32) := by rw [e_nn]; exact hk43
      refine own_go (B := T42.setTop (mkF m 113 (LS_JsJsIIJsJsIJsIIIJsJsRu q0 q1 p2 p3 q4 t0 sc ((sc.toInt64) * (1000 : Int64)) cp (2 : Int32) (0 : Int32) tp qq b3) [])) (fun t k => by rw [hnhk43]; exact k) ?_
      refine own_go (B := T42.setTop (mkF m 122 (LS_JsJsIIJsJsIJsIIIJsJsRu q0 q1 p2 p3 q4 t0 sc ((sc.toInt64) * (1000 : Int64)) cp (2 : Int32) (0 : Int32) tp qq b3) [(.long t0), (.ref b3)])) (fun t k => ?_) ?_
      · refine XS.iload X42.here hx rfl (hb hby at_113) rfl ?_
        refine XS.ifNo X42.here hx rfl (hb hby at_115) rfl ((if0 _ _).trans (tlt (by decide : (0 : Int32) < (2 : Int32))).2.2.2) ?_
        show Steps p.tables e below (T42.setTop (mkF m 118 (LS_JsJsIIJsJsIJsIIIJsJsRu q0 q1 p2 p3 q4 t0 sc ((sc.toInt64) * (1000 : Int64)) cp (2 : Int32) (0 : Int32) tp qq b3) [])) _
        refine XS.aload X42.here hx rfl (hb hby at_118) rfl rfl ?_
        refine XS.lload X42.here hx rfl (hb hby at_120) rfl ?_
        exact k
      have Z0_v78 := Nat.le_trans Z0_v24 K42.1
      have S_Duration_ZERO_v79 := S_Duration_ZERO.ext E3
      have S_Duration_ZERO_v80 := S_Duration_ZERO_v79.ext E4
      have S_Duration_ZERO_v81 := S_Duration_ZERO_v80.ext E6
      have S_Duration_ZERO_v82 := own_sta_keep S_Duration_ZERO_v81 K23 (allS (own_plain_E A4_v17) all0)
      have S_Duration_ZERO_v83 := own_sta_keep S_Duration_ZERO_v82 K42 (allS (own_plain_E A3_v27) all0)
      have E_Duration_ZERO_v84 := E_Duration_ZERO.ext E3
      have E_Duration_ZERO_v85 := E_Duration_ZERO_v84.ext E4
      have E_Duration_ZERO_v86 := E_Duration_ZERO_v85.ext E6
      have E_Duration_ZERO_v87 := E_Duration_ZERO_v86.keep K23
      have E_Duration_ZERO_v88 := E_Duration_ZERO_v87.keep K42
      have F_Duration_ZERO_seconds_v89 := F_Duration_ZERO_seconds.ext E3
      have F_Duration_ZERO_seconds_v90 := F_Duration_ZERO_seconds_v89.ext E4
      have F_Duration_ZERO_seconds_v91 := F_Duration_ZERO_seconds_v90.ext E6
      have ne93 : w_Duration_ZERO ≠ b4 := Nat.ne_of_lt (Nat.lt_of_lt_of_le F_Duration_ZERO_seconds_v89.lt (Nat.le_of_eq g4.symm))
      have F_Duration_ZERO_seconds_v92 := F_Duration_ZERO_seconds_v91.keep K23 (ninS ne93 nin0)
      have ne95 : w_Duration_ZERO ≠ b3 := Nat.ne_of_lt (Nat.lt_of_lt_of_le F_Duration_ZERO_seconds.lt (Nat.le_of_eq g3.symm))
      have F_Duration_ZERO_seconds_v94 := F_Duration_ZERO_seconds_v92.keep K42 (ninS ne95 nin0)
      have A3_v96 := A3_v27.keep K42
      have A4_v97 := A4_v28.keep K42
      have Fc23_v98 := Fc23.keep K42 (ninS (Ne.symm ne32) nin0)
      obtain ⟨cq99, kq99, q99a, q99b, q99c⟩ := isOf hZ23 rfl A3_v96
      obtain ⟨_, _, ⟨T99, L99, k99, n99⟩, -, X99, hs99, hg99, ⟨Lc99, hQ99, l99, y99, z99⟩, st99⟩ := X42.virtualBackS hx (y := (⟨"com/example/blend2/blend2/FixedWindow", "decide", "(J)Lcom/example/blend2/blend2/Decision;"⟩ : MethodName)) (z := (⟨"com/example/blend2/blend2/FixedWindow", "decide", "(J)Lcom/example/blend2/blend2/Decision;"⟩ : MethodName)) ho23 (mvT hZ23 (hw _ (List.mem_of_getElem? (i := 75) rfl))) (mvT hZ23 (hw _ (List.mem_of_getElem? (i := 76) rfl))) (notFace_of_selects (args := #[]) (mvT hZ23 (hw _ (List.mem_of_getElem? (i := 78) rfl)))) (mvT hZ23 (hw _ (List.mem_of_getElem? (i := 78) rfl))) (mvT hZ23 (hw _ (List.mem_of_getElem? (i := 77) rfl))) (by decide) (backOfS (W := 0) (rmdec l Z a0 hw [] b3 t0 b4 w_Duration_ZERO ((sc.toInt64) * (1000 : Int64)) (0 : Int64) (0 : Int32) cp T42.heap n0 Z0_v78 S_Duration_ZERO_v83 E_Duration_ZERO_v88 F_Duration_ZERO_seconds_v94 A3_v96 A4_v97 Fc23_v98 Fr42 Fm42 Fs42 Fa42 (Ne.symm ne32) ne95 g_b3 hw1 ht1 ht2 hcp ⟨by decide, Int.le_trans (by decide) hcp.1⟩) hZ23 (hw _ (List.mem_of_getElem? (i := 79) rfl)) (hw _ (List.mem_of_getElem? (i := 10) rfl)) (by decide) (by decide)) q99a q99c (g := (mkF m 122 (LS_JsJsIIJsJsIJsIIIJsJsRu q0 q1 p2 p3 q4 t0 sc ((sc.toInt64) * (1000 : Int64)) cp (2 : Int32) (0 : Int32) tp qq b3) [(.long t0), (.ref b3)])) rfl (by rw [hml]; rfl) (Steps.refl _) (argsL := [(.long t0)]) (rest := []) (lenOf pd__J_Lcom_example_blend2_blend2_Decision_ rfl) rfl (by show 2 * 0 + _ ≤ _; exact Nat.le_of_eq rfl) (hb hby at_122) (fun _ _ => ⟨rfl, rfl, (by decide : 10 + 9 ≤ _), (by decide : 137 + 97 ≤ _)⟩)
      dsimp only [Pt.U, Pt.locs, Pt.cells, Pt.slots] at X99 l99 y99 z99 st99 hQ99 hs99 hg99
      subst l99 y99 z99
      have hk23_v100 := Nat.le_trans hk23 K42.1
      have hS99 : s.Since T99.vm T99.heap.size := foldS (s := s) (vm0 := T23.vm) (T := T42) (U := T99) hS23 hk23_v100 hs99 hg99
      have hZ99 : Z.Warmed39 (s.setVm T99.vm).vm := State.Warmed39.trans (t := s.setVm T23.vm) hZ23 hs99.1
      have ho99 : (s.setVm T99.vm).vm.findClass "com/example/blend2/blend2/FixedWindowIsIdleAtPinLaw" = some m.cls := by rw [show (s.setVm T99.vm).vm = T99.vm from rfl, hs99.1.alike.findClass]; exact ho23
      obtain ⟨o99, ad99, rfl, N99q, K99, Fr99, Fm99, Fs99, Fa99, hb99⟩ := hQ99
      have N99 := Fr.app N42 N99q
      have hk99 : T99.heap.size ≤ T99.heap.size := Nat.le_refl _
      refine own_go (B := T99.setTop (mkF m 125 (LS_JsJsIIJsJsIJsIIIJsJsRu q0 q1 p2 p3 q4 t0 sc ((sc.toInt64) * (1000 : Int64)) cp (2 : Int32) (0 : Int32) tp qq b3) [(.ref o99)])) (fun t k => st99.trans k) ?_
      refine own_go (B := T99.setTop (mkF m 136 (LS_JsJsIIJsJsIJsIIIJsJsRu q0 q1 p2 p3 q4 t0 sc ((sc.toInt64) * (1000 : Int64)) cp (2 : Int32) (0 : Int32) tp qq b3) [(.long t0), (.ref b3)])) (fun t k => ?_) ?_
      · refine XS.pop X99.here hx rfl (hb hby at_125) rfl rfl ?_
        refine XS.iload X99.here hx rfl (hb hby at_126) rfl ?_
        show Steps p.tables e below (T99.setTop (mkF m 128 (LS_JsJsIIJsJsIJsIIIJsJsRu q0 q1 p2 p3 q4 t0 sc ((sc.toInt64) * (1000 : Int64)) cp (2 : Int32) (0 : Int32) tp qq b3) [(.int (2 : Int32))])) _
        refine XS.iconst X99.here hx rfl (hb hby at_128) ?_
        refine XS.icmpNo X99.here hx rfl (hb hby at_129) rfl (tlt (by decide : (1 : Int32) < (2 : Int32))).2.2.2 ?_
        refine XS.aload X99.here hx rfl (hb hby at_132) rfl rfl ?_
        show Steps p.tables e below (T99.setTop (mkF m 134 (LS_JsJsIIJsJsIJsIIIJsJsRu q0 q1 p2 p3 q4 t0 sc ((sc.toInt64) * (1000 : Int64)) cp (2 : Int32) (0 : Int32) tp qq b3) [(.ref b3)])) _
        refine XS.lload X99.here hx rfl (hb hby at_134) rfl ?_
        exact k
      have Z0_v101 := Nat.le_trans Z0_v78 K99.1
      have S_Duration_ZERO_v102 := own_sta_keep S_Duration_ZERO_v83 K99 (allS (own_plain_E A3_v96) all0)
      have E_Duration_ZERO_v103 := E_Duration_ZERO_v88.keep K99
      have F_Duration_ZERO_seconds_v104 := F_Duration_ZERO_seconds_v91.keep K23 (ninS ne93 nin0)
      have F_Duration_ZERO_seconds_v105 := F_Duration_ZERO_seconds_v104.keep K42 (ninS ne95 nin0)
      have F_Duration_ZERO_seconds_v106 := F_Duration_ZERO_seconds_v105.keep K99 (ninS ne95 nin0)
      have A3_v107 := A3_v96.keep K99
      have A4_v108 := A4_v97.keep K99
      have Fc23_v109 := Fc23_v98.keep K99 (ninS (Ne.symm ne32) nin0)
      obtain ⟨cq110, kq110, q110a, q110b, q110c⟩ := isOf hZ99 rfl A3_v107
      obtain ⟨_, _, ⟨T110, L110, k110, n110⟩, -, X110, hs110, hg110, ⟨Lc110, hQ110, l110, y110, z110⟩, st110⟩ := X99.virtualBackS hx (y := (⟨"com/example/blend2/blend2/FixedWindow", "decide", "(J)Lcom/example/blend2/blend2/Decision;"⟩ : MethodName)) (z := (⟨"com/example/blend2/blend2/FixedWindow", "decide", "(J)Lcom/example/blend2/blend2/Decision;"⟩ : MethodName)) ho99 (mvT hZ99 (hw _ (List.mem_of_getElem? (i := 75) rfl))) (mvT hZ99 (hw _ (List.mem_of_getElem? (i := 76) rfl))) (notFace_of_selects (args := #[]) (mvT hZ99 (hw _ (List.mem_of_getElem? (i := 78) rfl)))) (mvT hZ99 (hw _ (List.mem_of_getElem? (i := 78) rfl))) (mvT hZ99 (hw _ (List.mem_of_getElem? (i := 77) rfl))) (by decide) (backOfS (W := 0) (rmdec l Z a0 hw [] b3 t0 b4 w_Duration_ZERO ((sc.toInt64) * (1000 : Int64)) ((own_fd t0 ((sc.toInt64) * (1000 : Int64))) * ((sc.toInt64) * (1000 : Int64))) ad99 cp T99.heap n0 Z0_v101 S_Duration_ZERO_v102 E_Duration_ZERO_v103 F_Duration_ZERO_seconds_v106 A3_v107 A4_v108 Fc23_v109 Fr99 Fm99 Fs99 Fa99 (Ne.symm ne32) ne95 g_b3 hw1 ht1 ht2 hcp ⟨(by have := hb99.1; omega), hb99.2⟩) hZ99 (hw _ (List.mem_of_getElem? (i := 79) rfl)) (hw _ (List.mem_of_getElem? (i := 10) rfl)) (by decide) (by decide)) q110a q110c (g := (mkF m 136 (LS_JsJsIIJsJsIJsIIIJsJsRu q0 q1 p2 p3 q4 t0 sc ((sc.toInt64) * (1000 : Int64)) cp (2 : Int32) (0 : Int32) tp qq b3) [(.long t0), (.ref b3)])) rfl (by rw [hml]; rfl) (Steps.refl _) (argsL := [(.long t0)]) (rest := []) (lenOf pd__J_Lcom_example_blend2_blend2_Decision_ rfl) rfl (by show 2 * 0 + _ ≤ _; exact Nat.le_of_eq rfl) (hb hby at_136) (fun _ _ => ⟨rfl, rfl, (by decide : 19 + 9 ≤ _), (by decide : 234 + 97 ≤ _)⟩)
      dsimp only [Pt.U, Pt.locs, Pt.cells, Pt.slots] at X110 l110 y110 z110 st110 hQ110 hs110 hg110
      subst l110 y110 z110
      have hS110 : s.Since T110.vm T110.heap.size := foldS (s := s) (vm0 := T99.vm) (T := T99) (U := T110) hS99 hk99 hs110 hg110
      have hZ110 : Z.Warmed39 (s.setVm T110.vm).vm := State.Warmed39.trans (t := s.setVm T99.vm) hZ99 hs110.1
      have ho110 : (s.setVm T110.vm).vm.findClass "com/example/blend2/blend2/FixedWindowIsIdleAtPinLaw" = some m.cls := by rw [show (s.setVm T110.vm).vm = T110.vm from rfl, hs110.1.alike.findClass]; exact ho99
      obtain ⟨o110, ad110, rfl, N110q, K110, Fr110, Fm110, Fs110, Fa110, hb110⟩ := hQ110
      have N110 := Fr.app N99 N110q
      have hk110 : T110.heap.size ≤ T110.heap.size := Nat.le_refl _
      refine own_go (B := T110.setTop (mkF m 139 (LS_JsJsIIJsJsIJsIIIJsJsRu q0 q1 p2 p3 q4 t0 sc ((sc.toInt64) * (1000 : Int64)) cp (2 : Int32) (0 : Int32) tp qq b3) [(.ref o110)])) (fun t k => st110.trans k) ?_
      refine own_go (B := T110.setTop (mkF m 165 (LS_JsJsIIJsJsIJsIIIJsJsRu q0 q1 p2 p3 q4 t0 sc ((sc.toInt64) * (1000 : Int64)) cp (2 : Int32) (0 : Int32) tp qq b3) [(.long ((sc.toInt64) * (1000 : Int64))), (.long t0), (.long qq)])) (fun t k => ?_) ?_
      · refine XS.pop X110.here hx rfl (hb hby at_139) rfl rfl ?_
        refine XS.iload X110.here hx rfl (hb hby at_140) rfl ?_
        show Steps p.tables e below (T110.setTop (mkF m 142 (LS_JsJsIIJsJsIJsIIIJsJsRu q0 q1 p2 p3 q4 t0 sc ((sc.toInt64) * (1000 : Int64)) cp (2 : Int32) (0 : Int32) tp qq b3) [(.int (2 : Int32))])) _
        refine XS.iconst X110.here hx rfl (hb hby at_142) ?_
        refine XS.icmpYes X110.here hx rfl (pc0 := 143) (pc' := 154) rfl (hb hby at_143) rfl (flt (by decide : ¬ ((2 : Int32) < (2 : Int32)))).2.2.2 (by decide) (by decide) ?_
        refine XS.iload X110.here hx rfl (hb hby at_154) rfl ?_
        show Steps p.tables e below (T110.setTop (mkF m 156 (LS_JsJsIIJsJsIJsIIIJsJsRu q0 q1 p2 p3 q4 t0 sc ((sc.toInt64) * (1000 : Int64)) cp (2 : Int32) (0 : Int32) tp qq b3) [(.int (2 : Int32))])) _
        refine XS.ifNo X110.here hx rfl (hb hby at_156) rfl ((if0 _ _).trans (tlt (by decide : (0 : Int32) < (2 : Int32))).2.2.2) ?_
        refine XS.lload X110.here hx rfl (hb hby at_159) rfl ?_
        refine XS.lload X110.here hx rfl (hb hby at_161) rfl ?_
        show Steps p.tables e below (T110.setTop (mkF m 163 (LS_JsJsIIJsJsIJsIIIJsJsRu q0 q1 p2 p3 q4 t0 sc ((sc.toInt64) * (1000 : Int64)) cp (2 : Int32) (0 : Int32) tp qq b3) [(.long t0), (.long qq)])) _
        refine XS.lload X110.here hx rfl (hb hby at_163) rfl ?_
        exact k
      have Z0_v111 := Nat.le_trans Z0_v101 K110.1
      obtain ⟨_, _, ⟨T112, L112, k112, n112⟩, -, X112, ⟨Lc112, hQ112, l112, y112, z112⟩, st112⟩ := Jvm.LawKit.callS X110 hx (y := (⟨"com/example/blend2/blend2/FixedWindowIsIdleAtPinLaw", "windowEnd", "(JJ)J"⟩ : MethodName)) ho110 (mvT hZ110 (hw _ (List.mem_of_getElem? (i := 146) rfl))) (mvT hZ110 (hw _ (List.mem_of_getElem? (i := 147) rfl))) (mvT hZ110 (hw _ (List.mem_of_getElem? (i := 148) rfl))) (mvT hZ110 (hw _ (List.mem_of_getElem? (i := 149) rfl))) (by decide) (backOf (W := 2) (rmwen l Z a0 hw [] t0 ((sc.toInt64) * (1000 : Int64)) T110.heap n0 Z0_v111 (own_ne0 hw1)) hZ110 (hw _ (List.mem_of_getElem? (i := 149) rfl)) (hw _ (List.mem_of_getElem? (i := 148) rfl)) (by decide) (by decide)) (g := (mkF m 165 (LS_JsJsIIJsJsIJsIIIJsJsRu q0 q1 p2 p3 q4 t0 sc ((sc.toInt64) * (1000 : Int64)) cp (2 : Int32) (0 : Int32) tp qq b3) [(.long ((sc.toInt64) * (1000 : Int64))), (.long t0), (.long qq)])) rfl (by rw [hml]; rfl) (argsL := [(.long t0), (.long ((sc.toInt64) * (1000 : Int64)))]) (rest := [(.long qq)]) (lenOf pd__JJ_J rfl) rfl (by show 2 * 0 + _ ≤ _; exact Nat.le_of_eq rfl) (hb hby at_165) (fun _ _ => ⟨rfl, rfl, (by decide : 28 + 0 ≤ _), (by decide : 331 + 0 ≤ _)⟩)
      dsimp only [Pt.U, Pt.locs, Pt.cells, Pt.slots] at X112 l112 y112 z112 st112 hQ112
      subst l112 y112 z112
      obtain ⟨rfl, N112q, e112⟩ := hQ112
      have N112 := Fr.app N110 N112q
      refine own_go (B := T112.setTop (mkF m 168 (LS_JsJsIIJsJsIJsIIIJsJsRu q0 q1 p2 p3 q4 t0 sc ((sc.toInt64) * (1000 : Int64)) cp (2 : Int32) (0 : Int32) tp qq b3) [(.long (own_we t0 ((sc.toInt64) * (1000 : Int64)))), (.long qq)])) (fun t k => st112 _ k) ?_
      refine own_go (B := T112.setTop (mkF m 169 (LS_JsJsIIJsJsIJsIIIJsJsRu q0 q1 p2 p3 q4 t0 sc ((sc.toInt64) * (1000 : Int64)) cp (2 : Int32) (0 : Int32) tp qq b3) [(.int (lcmpW qq (own_we t0 ((sc.toInt64) * (1000 : Int64)))))])) (fun t k => ?_) ?_
      · refine XS.lcmp X112.here hx rfl (hb hby at_168) rfl ?_
        exact k
      by_cases hc169_113 : qq < (own_we t0 ((sc.toInt64) * (1000 : Int64)))
      · refine own_go (B := T112.setTop (mkF m 217 (LS_JsJsIIJsJsIJsIIIJsJsRI q0 q1 p2 p3 q4 t0 sc ((sc.toInt64) * (1000 : Int64)) cp (2 : Int32) (0 : Int32) tp qq b3 (0 : Int32)) [(.long qq), (.ref b3)])) (fun t k => ?_) ?_
        · refine XS.ifYes X112.here hx rfl (pc0 := 169) (pc' := 176) rfl (hb hby at_169) rfl ((if0 _ _).trans (tlt ((lw_lt qq (own_we t0 ((sc.toInt64) * (1000 : Int64)))).mpr hc169_113)).1) (by decide) (by decide) ?_
          refine XS.iconst X112.here hx rfl (hb hby at_176) ?_
          show Steps p.tables e below (T112.setTop (mkF m 177 (LS_JsJsIIJsJsIJsIIIJsJsRu q0 q1 p2 p3 q4 t0 sc ((sc.toInt64) * (1000 : Int64)) cp (2 : Int32) (0 : Int32) tp qq b3) [(.int (0 : Int32))])) _
          refine XS.istore X112.here hx rfl (hb hby at_177) rfl (l' := (LS_JsJsIIJsJsIJsIIIJsJsRI q0 q1 p2 p3 q4 t0 sc ((sc.toInt64) * (1000 : Int64)) cp (2 : Int32) (0 : Int32) tp qq b3 (0 : Int32))) rfl ?_
          refine XS.goto X112.here hx rfl (pc0 := 179) (pc' := 213) rfl (hb hby at_179) (by decide) (by decide) ?_
          refine XS.aload X112.here hx rfl (hb hby at_213) rfl rfl ?_
          show Steps p.tables e below (T112.setTop (mkF m 215 (LS_JsJsIIJsJsIJsIIIJsJsRI q0 q1 p2 p3 q4 t0 sc ((sc.toInt64) * (1000 : Int64)) cp (2 : Int32) (0 : Int32) tp qq b3 (0 : Int32)) [(.ref b3)])) _
          refine XS.lload X112.here hx rfl (hb hby at_215) rfl ?_
          exact k
        have A3_v115 := A3_v107.keep K110
        obtain ⟨cq114, kq114, q114a, q114b, q114c⟩ := isOf hZ110 e112 A3_v115
        obtain ⟨_, _, ⟨T114, L114, k114, n114⟩, -, X114, ⟨Lc114, hQ114, l114, y114, z114⟩, st114⟩ := X112.virtualBack hx (y := (⟨"com/example/blend2/blend2/FixedWindow", "isIdleAt", "(J)Z"⟩ : MethodName)) (z := (⟨"com/example/blend2/blend2/FixedWindow", "isIdleAt", "(J)Z"⟩ : MethodName)) ho110 (mvT hZ110 (hw _ (List.mem_of_getElem? (i := 150) rfl))) (mvT hZ110 (hw _ (List.mem_of_getElem? (i := 151) rfl))) (notFace_of_selects (args := #[]) (mvT hZ110 (hw _ (List.mem_of_getElem? (i := 153) rfl)))) (mvT hZ110 (hw _ (List.mem_of_getElem? (i := 153) rfl))) (mvT hZ110 (hw _ (List.mem_of_getElem? (i := 152) rfl))) (by decide) (backOf (W := 0) (rmidl l Z a0 hw [] b3 qq ((sc.toInt64) * (1000 : Int64)) ((own_fd t0 ((sc.toInt64) * (1000 : Int64))) * ((sc.toInt64) * (1000 : Int64))) ad110 T110.heap n0 Z0_v111 Fa110 Fs110 Fm110) hZ110 (hw _ (List.mem_of_getElem? (i := 154) rfl)) (hw _ (List.mem_of_getElem? (i := 10) rfl)) (by decide) (by decide)) q114a q114c (g := (mkF m 217 (LS_JsJsIIJsJsIJsIIIJsJsRI q0 q1 p2 p3 q4 t0 sc ((sc.toInt64) * (1000 : Int64)) cp (2 : Int32) (0 : Int32) tp qq b3 (0 : Int32)) [(.long qq), (.ref b3)])) rfl (by rw [hml]; rfl) (Steps.refl _) (argsL := [(.long qq)]) (rest := []) (lenOf pd__J_Z rfl) rfl (by show 2 * 0 + _ ≤ _; exact Nat.le_of_eq rfl) (hb hby at_217) (fun _ _ => ⟨rfl, e112, (by decide : 28 + 0 ≤ _), (by decide : 331 + 0 ≤ _)⟩)
        dsimp only [Pt.U, Pt.locs, Pt.cells, Pt.slots] at X114 l114 y114 z114 st114 hQ114
        subst l114 y114 z114
        obtain ⟨rfl, N114q, e114⟩ := hQ114
        have N114 := Fr.app N112 N114q
        refine own_go (B := T114.setTop (mkF m 220 (LS_JsJsIIJsJsIJsIIIJsJsRI q0 q1 p2 p3 q4 t0 sc ((sc.toInt64) * (1000 : Int64)) cp (2 : Int32) (0 : Int32) tp qq b3 (0 : Int32)) [(.int (if ad110 = (0 : Int32) then (1 : Int32) else if qq < (((own_fd t0 ((sc.toInt64) * (1000 : Int64))) * ((sc.toInt64) * (1000 : Int64))) + ((sc.toInt64) * (1000 : Int64))) then (0 : Int32) else (1 : Int32)))])) (fun t k => st114.trans k) ?_
        refine own_go (B := T114.setTop (mkF m 230 (LS_JsJsIIJsJsIJsIIIJsJsRI q0 q1 p2 p3 q4 t0 sc ((sc.toInt64) * (1000 : Int64)) cp (2 : Int32) (0 : Int32) tp qq b3 (0 : Int32)) [(.int (1 : Int32))])) (fun t k => ?_) ?_
        · refine XS.iload X114.here hx rfl (hb hby at_220) rfl ?_
          refine XS.icmpNo X114.here hx rfl (hb hby at_222) rfl (teq (own_fin (own_n0 hb110) (own_same hw1 ht1 ht2) hc169_113)).2 ?_
          show Steps p.tables e below (T114.setTop (mkF m 225 (LS_JsJsIIJsJsIJsIIIJsJsRI q0 q1 p2 p3 q4 t0 sc ((sc.toInt64) * (1000 : Int64)) cp (2 : Int32) (0 : Int32) tp qq b3 (0 : Int32)) [])) _
          refine XS.iconst X114.here hx rfl (hb hby at_225) ?_
          refine XS.goto X114.here hx rfl (pc0 := 226) (pc' := 230) rfl (hb hby at_226) (by decide) (by decide) ?_
          exact k
        obtain ⟨fs, hr, hrun, hended, hRW⟩ := Stand.leaveW (s := s) (vm₁ := T110.vm) X114 hS110 (by rw [e114]; exact hk110) (v := some (.int (1 : Int32))) (fun h => by rw [Bd.returns] at h; cases h)
        refine ⟨_, _, ?_, hrun, hended, _, _, rfl, ?_, hRW.1, hRW.2.1, hRW.2.2.1, hRW.2.2.2.mono (by decide) (by decide)⟩
        · show Steps p.tables e below (T114.setTop (mkF m 230 (LS_JsJsIIJsJsIJsIIIJsJsRI q0 q1 p2 p3 q4 t0 sc ((sc.toInt64) * (1000 : Int64)) cp (2 : Int32) (0 : Int32) tp qq b3 (0 : Int32)) [(.int (1 : Int32))])) _
          exact retN X114 hx (t := .boolean) Bd.returns (by simp) (hb hby at_230) hr
        · show Q0 Z q0 q1 p2 p3 q4 w_Algorithm_SLIDING_WINDOW_LOG w_StoreFailurePolicy_OPEN w_Duration_ZERO h0 n0 _ T114.heap _
          rw [e114]
          exact ⟨rfl, N114⟩
      · refine own_go (B := T112.setTop (mkF m 217 (LS_JsJsIIJsJsIJsIIIJsJsRI q0 q1 p2 p3 q4 t0 sc ((sc.toInt64) * (1000 : Int64)) cp (2 : Int32) (0 : Int32) tp qq b3 (1 : Int32)) [(.long qq), (.ref b3)])) (fun t k => ?_) ?_
        · refine XS.ifNo X112.here hx rfl (hb hby at_169) rfl ((if0 _ _).trans (flt (fun q => hc169_113 ((lw_lt qq (own_we t0 ((sc.toInt64) * (1000 : Int64)))).mp q))).1) ?_
          refine XS.iconst X112.here hx rfl (hb hby at_172) ?_
          show Steps p.tables e below (T112.setTop (mkF m 173 (LS_JsJsIIJsJsIJsIIIJsJsRu q0 q1 p2 p3 q4 t0 sc ((sc.toInt64) * (1000 : Int64)) cp (2 : Int32) (0 : Int32) tp qq b3) [(.int (1 : Int32))])) _
          refine XS.goto X112.here hx rfl (pc0 := 173) (pc' := 177) rfl (hb hby at_173) (by decide) (by decide) ?_
          refine XS.istore X112.here hx rfl (hb hby at_177) rfl (l' := (LS_JsJsIIJsJsIJsIIIJsJsRI q0 q1 p2 p3 q4 t0 sc ((sc.toInt64) * (1000 : Int64)) cp (2 : Int32) (0 : Int32) tp qq b3 (1 : Int32))) rfl ?_
          refine XS.goto X112.here hx rfl (pc0 := 179) (pc' := 213) rfl (hb hby at_179) (by decide) (by decide) ?_
          show Steps p.tables e below (T112.setTop (mkF m 213 (LS_JsJsIIJsJsIJsIIIJsJsRI q0 q1 p2 p3 q4 t0 sc ((sc.toInt64) * (1000 : Int64)) cp (2 : Int32) (0 : Int32) tp qq b3 (1 : Int32)) [])) _
          refine XS.aload X112.here hx rfl (hb hby at_213) rfl rfl ?_
          refine XS.lload X112.here hx rfl (hb hby at_215) rfl ?_
          exact k
        have A3_v117 := A3_v107.keep K110
        obtain ⟨cq116, kq116, q116a, q116b, q116c⟩ := isOf hZ110 e112 A3_v117
        obtain ⟨_, _, ⟨T116, L116, k116, n116⟩, -, X116, ⟨Lc116, hQ116, l116, y116, z116⟩, st116⟩ := X112.virtualBack hx (y := (⟨"com/example/blend2/blend2/FixedWindow", "isIdleAt", "(J)Z"⟩ : MethodName)) (z := (⟨"com/example/blend2/blend2/FixedWindow", "isIdleAt", "(J)Z"⟩ : MethodName)) ho110 (mvT hZ110 (hw _ (List.mem_of_getElem? (i := 150) rfl))) (mvT hZ110 (hw _ (List.mem_of_getElem? (i := 151) rfl))) (notFace_of_selects (args := #[]) (mvT hZ110 (hw _ (List.mem_of_getElem? (i := 153) rfl)))) (mvT hZ110 (hw _ (List.mem_of_getElem? (i := 153) rfl))) (mvT hZ110 (hw _ (List.mem_of_getElem? (i := 152) rfl))) (by decide) (backOf (W := 0) (rmidl l Z a0 hw [] b3 qq ((sc.toInt64) * (1000 : Int64)) ((own_fd t0 ((sc.toInt64) * (1000 : Int64))) * ((sc.toInt64) * (1000 : Int64))) ad110 T110.heap n0 Z0_v111 Fa110 Fs110 Fm110) hZ110 (hw _ (List.mem_of_getElem? (i := 154) rfl)) (hw _ (List.mem_of_getElem? (i := 10) rfl)) (by decide) (by decide)) q116a q116c (g := (mkF m 217 (LS_JsJsIIJsJsIJsIIIJsJsRI q0 q1 p2 p3 q4 t0 sc ((sc.toInt64) * (1000 : Int64)) cp (2 : Int32) (0 : Int32) tp qq b3 (1 : Int32)) [(.long qq), (.ref b3)])) rfl (by rw [hml]; rfl) (Steps.refl _) (argsL := [(.long qq)]) (rest := []) (lenOf pd__J_Z rfl) rfl (by show 2 * 0 + _ ≤ _; exact Nat.le_of_eq rfl) (hb hby at_217) (fun _ _ => ⟨rfl, e112, (by decide : 28 + 0 ≤ _), (by decide : 331 + 0 ≤ _)⟩)
        dsimp only [Pt.U, Pt.locs, Pt.cells, Pt.slots] at X116 l116 y116 z116 st116 hQ116
        subst l116 y116 z116
        obtain ⟨rfl, N116q, e116⟩ := hQ116
        have N116 := Fr.app N112 N116q
        refine own_go (B := T116.setTop (mkF m 220 (LS_JsJsIIJsJsIJsIIIJsJsRI q0 q1 p2 p3 q4 t0 sc ((sc.toInt64) * (1000 : Int64)) cp (2 : Int32) (0 : Int32) tp qq b3 (1 : Int32)) [(.int (if ad110 = (0 : Int32) then (1 : Int32) else if qq < (((own_fd t0 ((sc.toInt64) * (1000 : Int64))) * ((sc.toInt64) * (1000 : Int64))) + ((sc.toInt64) * (1000 : Int64))) then (0 : Int32) else (1 : Int32)))])) (fun t k => st116.trans k) ?_
        refine own_go (B := T116.setTop (mkF m 230 (LS_JsJsIIJsJsIJsIIIJsJsRI q0 q1 p2 p3 q4 t0 sc ((sc.toInt64) * (1000 : Int64)) cp (2 : Int32) (0 : Int32) tp qq b3 (1 : Int32)) [(.int (1 : Int32))])) (fun t k => ?_) ?_
        · refine XS.iload X116.here hx rfl (hb hby at_220) rfl ?_
          refine XS.icmpNo X116.here hx rfl (hb hby at_222) rfl (teq (own_fin2 (own_n0 hb110) (own_same hw1 ht1 ht2) hc169_113)).2 ?_
          show Steps p.tables e below (T116.setTop (mkF m 225 (LS_JsJsIIJsJsIJsIIIJsJsRI q0 q1 p2 p3 q4 t0 sc ((sc.toInt64) * (1000 : Int64)) cp (2 : Int32) (0 : Int32) tp qq b3 (1 : Int32)) [])) _
          refine XS.iconst X116.here hx rfl (hb hby at_225) ?_
          refine XS.goto X116.here hx rfl (pc0 := 226) (pc' := 230) rfl (hb hby at_226) (by decide) (by decide) ?_
          exact k
        obtain ⟨fs, hr, hrun, hended, hRW⟩ := Stand.leaveW (s := s) (vm₁ := T110.vm) X116 hS110 (by rw [e116]; exact hk110) (v := some (.int (1 : Int32))) (fun h => by rw [Bd.returns] at h; cases h)
        refine ⟨_, _, ?_, hrun, hended, _, _, rfl, ?_, hRW.1, hRW.2.1, hRW.2.2.1, hRW.2.2.2.mono (by decide) (by decide)⟩
        · show Steps p.tables e below (T116.setTop (mkF m 230 (LS_JsJsIIJsJsIJsIIIJsJsRI q0 q1 p2 p3 q4 t0 sc ((sc.toInt64) * (1000 : Int64)) cp (2 : Int32) (0 : Int32) tp qq b3 (1 : Int32)) [(.int (1 : Int32))])) _
          exact retN X116 hx (t := .boolean) Bd.returns (by simp) (hb hby at_230) hr
        · show Q0 Z q0 q1 p2 p3 q4 w_Algorithm_SLIDING_WINDOW_LOG w_StoreFailurePolicy_OPEN w_Duration_ZERO h0 n0 _ T116.heap _
          rw [e116]
          exact ⟨rfl, N116⟩
    · have hnhk43 : nn = (3 : Int32) := by rw [e_nn]; exact hk43
      refine own_go (B := T42.setTop (mkF m 113 (LS_JsJsIIJsJsIJsIIIJsJsRu q0 q1 p2 p3 q4 t0 sc ((sc.toInt64) * (1000 : Int64)) cp (3 : Int32) (0 : Int32) tp qq b3) [])) (fun t k => by rw [hnhk43]; exact k) ?_
      refine own_go (B := T42.setTop (mkF m 122 (LS_JsJsIIJsJsIJsIIIJsJsRu q0 q1 p2 p3 q4 t0 sc ((sc.toInt64) * (1000 : Int64)) cp (3 : Int32) (0 : Int32) tp qq b3) [(.long t0), (.ref b3)])) (fun t k => ?_) ?_
      · refine XS.iload X42.here hx rfl (hb hby at_113) rfl ?_
        refine XS.ifNo X42.here hx rfl (hb hby at_115) rfl ((if0 _ _).trans (tlt (by decide : (0 : Int32) < (3 : Int32))).2.2.2) ?_
        show Steps p.tables e below (T42.setTop (mkF m 118 (LS_JsJsIIJsJsIJsIIIJsJsRu q0 q1 p2 p3 q4 t0 sc ((sc.toInt64) * (1000 : Int64)) cp (3 : Int32) (0 : Int32) tp qq b3) [])) _
        refine XS.aload X42.here hx rfl (hb hby at_118) rfl rfl ?_
        refine XS.lload X42.here hx rfl (hb hby at_120) rfl ?_
        exact k
      have Z0_v118 := Nat.le_trans Z0_v24 K42.1
      have S_Duration_ZERO_v119 := S_Duration_ZERO.ext E3
      have S_Duration_ZERO_v120 := S_Duration_ZERO_v119.ext E4
      have S_Duration_ZERO_v121 := S_Duration_ZERO_v120.ext E6
      have S_Duration_ZERO_v122 := own_sta_keep S_Duration_ZERO_v121 K23 (allS (own_plain_E A4_v17) all0)
      have S_Duration_ZERO_v123 := own_sta_keep S_Duration_ZERO_v122 K42 (allS (own_plain_E A3_v27) all0)
      have E_Duration_ZERO_v124 := E_Duration_ZERO.ext E3
      have E_Duration_ZERO_v125 := E_Duration_ZERO_v124.ext E4
      have E_Duration_ZERO_v126 := E_Duration_ZERO_v125.ext E6
      have E_Duration_ZERO_v127 := E_Duration_ZERO_v126.keep K23
      have E_Duration_ZERO_v128 := E_Duration_ZERO_v127.keep K42
      have F_Duration_ZERO_seconds_v129 := F_Duration_ZERO_seconds.ext E3
      have F_Duration_ZERO_seconds_v130 := F_Duration_ZERO_seconds_v129.ext E4
      have F_Duration_ZERO_seconds_v131 := F_Duration_ZERO_seconds_v130.ext E6
      have ne133 : w_Duration_ZERO ≠ b4 := Nat.ne_of_lt (Nat.lt_of_lt_of_le F_Duration_ZERO_seconds_v129.lt (Nat.le_of_eq g4.symm))
      have F_Duration_ZERO_seconds_v132 := F_Duration_ZERO_seconds_v131.keep K23 (ninS ne133 nin0)
      have ne135 : w_Duration_ZERO ≠ b3 := Nat.ne_of_lt (Nat.lt_of_lt_of_le F_Duration_ZERO_seconds.lt (Nat.le_of_eq g3.symm))
      have F_Duration_ZERO_seconds_v134 := F_Duration_ZERO_seconds_v132.keep K42 (ninS ne135 nin0)
      have A3_v136 := A3_v27.keep K42
      have A4_v137 := A4_v28.keep K42
      have Fc23_v138 := Fc23.keep K42 (ninS (Ne.symm ne32) nin0)
      obtain ⟨cq139, kq139, q139a, q139b, q139c⟩ := isOf hZ23 rfl A3_v136
      obtain ⟨_, _, ⟨T139, L139, k139, n139⟩, -, X139, hs139, hg139, ⟨Lc139, hQ139, l139, y139, z139⟩, st139⟩ := X42.virtualBackS hx (y := (⟨"com/example/blend2/blend2/FixedWindow", "decide", "(J)Lcom/example/blend2/blend2/Decision;"⟩ : MethodName)) (z := (⟨"com/example/blend2/blend2/FixedWindow", "decide", "(J)Lcom/example/blend2/blend2/Decision;"⟩ : MethodName)) ho23 (mvT hZ23 (hw _ (List.mem_of_getElem? (i := 75) rfl))) (mvT hZ23 (hw _ (List.mem_of_getElem? (i := 76) rfl))) (notFace_of_selects (args := #[]) (mvT hZ23 (hw _ (List.mem_of_getElem? (i := 78) rfl)))) (mvT hZ23 (hw _ (List.mem_of_getElem? (i := 78) rfl))) (mvT hZ23 (hw _ (List.mem_of_getElem? (i := 77) rfl))) (by decide) (backOfS (W := 0) (rmdec l Z a0 hw [] b3 t0 b4 w_Duration_ZERO ((sc.toInt64) * (1000 : Int64)) (0 : Int64) (0 : Int32) cp T42.heap n0 Z0_v118 S_Duration_ZERO_v123 E_Duration_ZERO_v128 F_Duration_ZERO_seconds_v134 A3_v136 A4_v137 Fc23_v138 Fr42 Fm42 Fs42 Fa42 (Ne.symm ne32) ne135 g_b3 hw1 ht1 ht2 hcp ⟨by decide, Int.le_trans (by decide) hcp.1⟩) hZ23 (hw _ (List.mem_of_getElem? (i := 79) rfl)) (hw _ (List.mem_of_getElem? (i := 10) rfl)) (by decide) (by decide)) q139a q139c (g := (mkF m 122 (LS_JsJsIIJsJsIJsIIIJsJsRu q0 q1 p2 p3 q4 t0 sc ((sc.toInt64) * (1000 : Int64)) cp (3 : Int32) (0 : Int32) tp qq b3) [(.long t0), (.ref b3)])) rfl (by rw [hml]; rfl) (Steps.refl _) (argsL := [(.long t0)]) (rest := []) (lenOf pd__J_Lcom_example_blend2_blend2_Decision_ rfl) rfl (by show 2 * 0 + _ ≤ _; exact Nat.le_of_eq rfl) (hb hby at_122) (fun _ _ => ⟨rfl, rfl, (by decide : 10 + 9 ≤ _), (by decide : 137 + 97 ≤ _)⟩)
      dsimp only [Pt.U, Pt.locs, Pt.cells, Pt.slots] at X139 l139 y139 z139 st139 hQ139 hs139 hg139
      subst l139 y139 z139
      have hk23_v140 := Nat.le_trans hk23 K42.1
      have hS139 : s.Since T139.vm T139.heap.size := foldS (s := s) (vm0 := T23.vm) (T := T42) (U := T139) hS23 hk23_v140 hs139 hg139
      have hZ139 : Z.Warmed39 (s.setVm T139.vm).vm := State.Warmed39.trans (t := s.setVm T23.vm) hZ23 hs139.1
      have ho139 : (s.setVm T139.vm).vm.findClass "com/example/blend2/blend2/FixedWindowIsIdleAtPinLaw" = some m.cls := by rw [show (s.setVm T139.vm).vm = T139.vm from rfl, hs139.1.alike.findClass]; exact ho23
      obtain ⟨o139, ad139, rfl, N139q, K139, Fr139, Fm139, Fs139, Fa139, hb139⟩ := hQ139
      have N139 := Fr.app N42 N139q
      have hk139 : T139.heap.size ≤ T139.heap.size := Nat.le_refl _
      refine own_go (B := T139.setTop (mkF m 125 (LS_JsJsIIJsJsIJsIIIJsJsRu q0 q1 p2 p3 q4 t0 sc ((sc.toInt64) * (1000 : Int64)) cp (3 : Int32) (0 : Int32) tp qq b3) [(.ref o139)])) (fun t k => st139.trans k) ?_
      refine own_go (B := T139.setTop (mkF m 136 (LS_JsJsIIJsJsIJsIIIJsJsRu q0 q1 p2 p3 q4 t0 sc ((sc.toInt64) * (1000 : Int64)) cp (3 : Int32) (0 : Int32) tp qq b3) [(.long t0), (.ref b3)])) (fun t k => ?_) ?_
      · refine XS.pop X139.here hx rfl (hb hby at_125) rfl rfl ?_
        refine XS.iload X139.here hx rfl (hb hby at_126) rfl ?_
        show Steps p.tables e below (T139.setTop (mkF m 128 (LS_JsJsIIJsJsIJsIIIJsJsRu q0 q1 p2 p3 q4 t0 sc ((sc.toInt64) * (1000 : Int64)) cp (3 : Int32) (0 : Int32) tp qq b3) [(.int (3 : Int32))])) _
        refine XS.iconst X139.here hx rfl (hb hby at_128) ?_
        refine XS.icmpNo X139.here hx rfl (hb hby at_129) rfl (tlt (by decide : (1 : Int32) < (3 : Int32))).2.2.2 ?_
        refine XS.aload X139.here hx rfl (hb hby at_132) rfl rfl ?_
        show Steps p.tables e below (T139.setTop (mkF m 134 (LS_JsJsIIJsJsIJsIIIJsJsRu q0 q1 p2 p3 q4 t0 sc ((sc.toInt64) * (1000 : Int64)) cp (3 : Int32) (0 : Int32) tp qq b3) [(.ref b3)])) _
        refine XS.lload X139.here hx rfl (hb hby at_134) rfl ?_
        exact k
      have Z0_v141 := Nat.le_trans Z0_v118 K139.1
      have S_Duration_ZERO_v142 := own_sta_keep S_Duration_ZERO_v123 K139 (allS (own_plain_E A3_v136) all0)
      have E_Duration_ZERO_v143 := E_Duration_ZERO_v128.keep K139
      have F_Duration_ZERO_seconds_v144 := F_Duration_ZERO_seconds_v131.keep K23 (ninS ne133 nin0)
      have F_Duration_ZERO_seconds_v145 := F_Duration_ZERO_seconds_v144.keep K42 (ninS ne135 nin0)
      have F_Duration_ZERO_seconds_v146 := F_Duration_ZERO_seconds_v145.keep K139 (ninS ne135 nin0)
      have A3_v147 := A3_v136.keep K139
      have A4_v148 := A4_v137.keep K139
      have Fc23_v149 := Fc23_v138.keep K139 (ninS (Ne.symm ne32) nin0)
      obtain ⟨cq150, kq150, q150a, q150b, q150c⟩ := isOf hZ139 rfl A3_v147
      obtain ⟨_, _, ⟨T150, L150, k150, n150⟩, -, X150, hs150, hg150, ⟨Lc150, hQ150, l150, y150, z150⟩, st150⟩ := X139.virtualBackS hx (y := (⟨"com/example/blend2/blend2/FixedWindow", "decide", "(J)Lcom/example/blend2/blend2/Decision;"⟩ : MethodName)) (z := (⟨"com/example/blend2/blend2/FixedWindow", "decide", "(J)Lcom/example/blend2/blend2/Decision;"⟩ : MethodName)) ho139 (mvT hZ139 (hw _ (List.mem_of_getElem? (i := 75) rfl))) (mvT hZ139 (hw _ (List.mem_of_getElem? (i := 76) rfl))) (notFace_of_selects (args := #[]) (mvT hZ139 (hw _ (List.mem_of_getElem? (i := 78) rfl)))) (mvT hZ139 (hw _ (List.mem_of_getElem? (i := 78) rfl))) (mvT hZ139 (hw _ (List.mem_of_getElem? (i := 77) rfl))) (by decide) (backOfS (W := 0) (rmdec l Z a0 hw [] b3 t0 b4 w_Duration_ZERO ((sc.toInt64) * (1000 : Int64)) ((own_fd t0 ((sc.toInt64) * (1000 : Int64))) * ((sc.toInt64) * (1000 : Int64))) ad139 cp T139.heap n0 Z0_v141 S_Duration_ZERO_v142 E_Duration_ZERO_v143 F_Duration_ZERO_seconds_v146 A3_v147 A4_v148 Fc23_v149 Fr139 Fm139 Fs139 Fa139 (Ne.symm ne32) ne135 g_b3 hw1 ht1 ht2 hcp ⟨(by have := hb139.1; omega), hb139.2⟩) hZ139 (hw _ (List.mem_of_getElem? (i := 79) rfl)) (hw _ (List.mem_of_getElem? (i := 10) rfl)) (by decide) (by decide)) q150a q150c (g := (mkF m 136 (LS_JsJsIIJsJsIJsIIIJsJsRu q0 q1 p2 p3 q4 t0 sc ((sc.toInt64) * (1000 : Int64)) cp (3 : Int32) (0 : Int32) tp qq b3) [(.long t0), (.ref b3)])) rfl (by rw [hml]; rfl) (Steps.refl _) (argsL := [(.long t0)]) (rest := []) (lenOf pd__J_Lcom_example_blend2_blend2_Decision_ rfl) rfl (by show 2 * 0 + _ ≤ _; exact Nat.le_of_eq rfl) (hb hby at_136) (fun _ _ => ⟨rfl, rfl, (by decide : 19 + 9 ≤ _), (by decide : 234 + 97 ≤ _)⟩)
      dsimp only [Pt.U, Pt.locs, Pt.cells, Pt.slots] at X150 l150 y150 z150 st150 hQ150 hs150 hg150
      subst l150 y150 z150
      have hS150 : s.Since T150.vm T150.heap.size := foldS (s := s) (vm0 := T139.vm) (T := T139) (U := T150) hS139 hk139 hs150 hg150
      have hZ150 : Z.Warmed39 (s.setVm T150.vm).vm := State.Warmed39.trans (t := s.setVm T139.vm) hZ139 hs150.1
      have ho150 : (s.setVm T150.vm).vm.findClass "com/example/blend2/blend2/FixedWindowIsIdleAtPinLaw" = some m.cls := by rw [show (s.setVm T150.vm).vm = T150.vm from rfl, hs150.1.alike.findClass]; exact ho139
      obtain ⟨o150, ad150, rfl, N150q, K150, Fr150, Fm150, Fs150, Fa150, hb150⟩ := hQ150
      have N150 := Fr.app N139 N150q
      have hk150 : T150.heap.size ≤ T150.heap.size := Nat.le_refl _
      refine own_go (B := T150.setTop (mkF m 139 (LS_JsJsIIJsJsIJsIIIJsJsRu q0 q1 p2 p3 q4 t0 sc ((sc.toInt64) * (1000 : Int64)) cp (3 : Int32) (0 : Int32) tp qq b3) [(.ref o150)])) (fun t k => st150.trans k) ?_
      refine own_go (B := T150.setTop (mkF m 150 (LS_JsJsIIJsJsIJsIIIJsJsRu q0 q1 p2 p3 q4 t0 sc ((sc.toInt64) * (1000 : Int64)) cp (3 : Int32) (0 : Int32) tp qq b3) [(.long t0), (.ref b3)])) (fun t k => ?_) ?_
      · refine XS.pop X150.here hx rfl (hb hby at_139) rfl rfl ?_
        refine XS.iload X150.here hx rfl (hb hby at_140) rfl ?_
        show Steps p.tables e below (T150.setTop (mkF m 142 (LS_JsJsIIJsJsIJsIIIJsJsRu q0 q1 p2 p3 q4 t0 sc ((sc.toInt64) * (1000 : Int64)) cp (3 : Int32) (0 : Int32) tp qq b3) [(.int (3 : Int32))])) _
        refine XS.iconst X150.here hx rfl (hb hby at_142) ?_
        refine XS.icmpNo X150.here hx rfl (hb hby at_143) rfl (tlt (by decide : (2 : Int32) < (3 : Int32))).2.2.2 ?_
        refine XS.aload X150.here hx rfl (hb hby at_146) rfl rfl ?_
        show Steps p.tables e below (T150.setTop (mkF m 148 (LS_JsJsIIJsJsIJsIIIJsJsRu q0 q1 p2 p3 q4 t0 sc ((sc.toInt64) * (1000 : Int64)) cp (3 : Int32) (0 : Int32) tp qq b3) [(.ref b3)])) _
        refine XS.lload X150.here hx rfl (hb hby at_148) rfl ?_
        exact k
      have Z0_v151 := Nat.le_trans Z0_v141 K150.1
      have S_Duration_ZERO_v152 := own_sta_keep S_Duration_ZERO_v142 K150 (allS (own_plain_E A3_v147) all0)
      have E_Duration_ZERO_v153 := E_Duration_ZERO_v143.keep K150
      have F_Duration_ZERO_seconds_v154 := F_Duration_ZERO_seconds_v146.keep K150 (ninS ne135 nin0)
      have A3_v155 := A3_v147.keep K150
      have A4_v156 := A4_v148.keep K150
      have Fc23_v157 := Fc23_v149.keep K150 (ninS (Ne.symm ne32) nin0)
      obtain ⟨cq158, kq158, q158a, q158b, q158c⟩ := isOf hZ150 rfl A3_v155
      obtain ⟨_, _, ⟨T158, L158, k158, n158⟩, -, X158, hs158, hg158, ⟨Lc158, hQ158, l158, y158, z158⟩, st158⟩ := X150.virtualBackS hx (y := (⟨"com/example/blend2/blend2/FixedWindow", "decide", "(J)Lcom/example/blend2/blend2/Decision;"⟩ : MethodName)) (z := (⟨"com/example/blend2/blend2/FixedWindow", "decide", "(J)Lcom/example/blend2/blend2/Decision;"⟩ : MethodName)) ho150 (mvT hZ150 (hw _ (List.mem_of_getElem? (i := 75) rfl))) (mvT hZ150 (hw _ (List.mem_of_getElem? (i := 76) rfl))) (notFace_of_selects (args := #[]) (mvT hZ150 (hw _ (List.mem_of_getElem? (i := 78) rfl)))) (mvT hZ150 (hw _ (List.mem_of_getElem? (i := 78) rfl))) (mvT hZ150 (hw _ (List.mem_of_getElem? (i := 77) rfl))) (by decide) (backOfS (W := 0) (rmdec l Z a0 hw [] b3 t0 b4 w_Duration_ZERO ((sc.toInt64) * (1000 : Int64)) ((own_fd t0 ((sc.toInt64) * (1000 : Int64))) * ((sc.toInt64) * (1000 : Int64))) ad150 cp T150.heap n0 Z0_v151 S_Duration_ZERO_v152 E_Duration_ZERO_v153 F_Duration_ZERO_seconds_v154 A3_v155 A4_v156 Fc23_v157 Fr150 Fm150 Fs150 Fa150 (Ne.symm ne32) ne135 g_b3 hw1 ht1 ht2 hcp ⟨(by have := hb150.1; omega), hb150.2⟩) hZ150 (hw _ (List.mem_of_getElem? (i := 79) rfl)) (hw _ (List.mem_of_getElem? (i := 10) rfl)) (by decide) (by decide)) q158a q158c (g := (mkF m 150 (LS_JsJsIIJsJsIJsIIIJsJsRu q0 q1 p2 p3 q4 t0 sc ((sc.toInt64) * (1000 : Int64)) cp (3 : Int32) (0 : Int32) tp qq b3) [(.long t0), (.ref b3)])) rfl (by rw [hml]; rfl) (Steps.refl _) (argsL := [(.long t0)]) (rest := []) (lenOf pd__J_Lcom_example_blend2_blend2_Decision_ rfl) rfl (by show 2 * 0 + _ ≤ _; exact Nat.le_of_eq rfl) (hb hby at_150) (fun _ _ => ⟨rfl, rfl, (by decide : 28 + 9 ≤ _), (by decide : 331 + 97 ≤ _)⟩)
      dsimp only [Pt.U, Pt.locs, Pt.cells, Pt.slots] at X158 l158 y158 z158 st158 hQ158 hs158 hg158
      subst l158 y158 z158
      have hS158 : s.Since T158.vm T158.heap.size := foldS (s := s) (vm0 := T150.vm) (T := T150) (U := T158) hS150 hk150 hs158 hg158
      have hZ158 : Z.Warmed39 (s.setVm T158.vm).vm := State.Warmed39.trans (t := s.setVm T150.vm) hZ150 hs158.1
      have ho158 : (s.setVm T158.vm).vm.findClass "com/example/blend2/blend2/FixedWindowIsIdleAtPinLaw" = some m.cls := by rw [show (s.setVm T158.vm).vm = T158.vm from rfl, hs158.1.alike.findClass]; exact ho150
      obtain ⟨o158, ad158, rfl, N158q, K158, Fr158, Fm158, Fs158, Fa158, hb158⟩ := hQ158
      have N158 := Fr.app N150 N158q
      have hk158 : T158.heap.size ≤ T158.heap.size := Nat.le_refl _
      refine own_go (B := T158.setTop (mkF m 153 (LS_JsJsIIJsJsIJsIIIJsJsRu q0 q1 p2 p3 q4 t0 sc ((sc.toInt64) * (1000 : Int64)) cp (3 : Int32) (0 : Int32) tp qq b3) [(.ref o158)])) (fun t k => st158.trans k) ?_
      refine own_go (B := T158.setTop (mkF m 165 (LS_JsJsIIJsJsIJsIIIJsJsRu q0 q1 p2 p3 q4 t0 sc ((sc.toInt64) * (1000 : Int64)) cp (3 : Int32) (0 : Int32) tp qq b3) [(.long ((sc.toInt64) * (1000 : Int64))), (.long t0), (.long qq)])) (fun t k => ?_) ?_
      · refine XS.pop X158.here hx rfl (hb hby at_153) rfl rfl ?_
        refine XS.iload X158.here hx rfl (hb hby at_154) rfl ?_
        show Steps p.tables e below (T158.setTop (mkF m 156 (LS_JsJsIIJsJsIJsIIIJsJsRu q0 q1 p2 p3 q4 t0 sc ((sc.toInt64) * (1000 : Int64)) cp (3 : Int32) (0 : Int32) tp qq b3) [(.int (3 : Int32))])) _
        refine XS.ifNo X158.here hx rfl (hb hby at_156) rfl ((if0 _ _).trans (tlt (by decide : (0 : Int32) < (3 : Int32))).2.2.2) ?_
        refine XS.lload X158.here hx rfl (hb hby at_159) rfl ?_
        refine XS.lload X158.here hx rfl (hb hby at_161) rfl ?_
        show Steps p.tables e below (T158.setTop (mkF m 163 (LS_JsJsIIJsJsIJsIIIJsJsRu q0 q1 p2 p3 q4 t0 sc ((sc.toInt64) * (1000 : Int64)) cp (3 : Int32) (0 : Int32) tp qq b3) [(.long t0), (.long qq)])) _
        refine XS.lload X158.here hx rfl (hb hby at_163) rfl ?_
        exact k
      have Z0_v159 := Nat.le_trans Z0_v151 K158.1
      obtain ⟨_, _, ⟨T160, L160, k160, n160⟩, -, X160, ⟨Lc160, hQ160, l160, y160, z160⟩, st160⟩ := Jvm.LawKit.callS X158 hx (y := (⟨"com/example/blend2/blend2/FixedWindowIsIdleAtPinLaw", "windowEnd", "(JJ)J"⟩ : MethodName)) ho158 (mvT hZ158 (hw _ (List.mem_of_getElem? (i := 146) rfl))) (mvT hZ158 (hw _ (List.mem_of_getElem? (i := 147) rfl))) (mvT hZ158 (hw _ (List.mem_of_getElem? (i := 148) rfl))) (mvT hZ158 (hw _ (List.mem_of_getElem? (i := 149) rfl))) (by decide) (backOf (W := 2) (rmwen l Z a0 hw [] t0 ((sc.toInt64) * (1000 : Int64)) T158.heap n0 Z0_v159 (own_ne0 hw1)) hZ158 (hw _ (List.mem_of_getElem? (i := 149) rfl)) (hw _ (List.mem_of_getElem? (i := 148) rfl)) (by decide) (by decide)) (g := (mkF m 165 (LS_JsJsIIJsJsIJsIIIJsJsRu q0 q1 p2 p3 q4 t0 sc ((sc.toInt64) * (1000 : Int64)) cp (3 : Int32) (0 : Int32) tp qq b3) [(.long ((sc.toInt64) * (1000 : Int64))), (.long t0), (.long qq)])) rfl (by rw [hml]; rfl) (argsL := [(.long t0), (.long ((sc.toInt64) * (1000 : Int64)))]) (rest := [(.long qq)]) (lenOf pd__JJ_J rfl) rfl (by show 2 * 0 + _ ≤ _; exact Nat.le_of_eq rfl) (hb hby at_165) (fun _ _ => ⟨rfl, rfl, (by decide : 37 + 0 ≤ _), (by decide : 428 + 0 ≤ _)⟩)
      dsimp only [Pt.U, Pt.locs, Pt.cells, Pt.slots] at X160 l160 y160 z160 st160 hQ160
      subst l160 y160 z160
      obtain ⟨rfl, N160q, e160⟩ := hQ160
      have N160 := Fr.app N158 N160q
      refine own_go (B := T160.setTop (mkF m 168 (LS_JsJsIIJsJsIJsIIIJsJsRu q0 q1 p2 p3 q4 t0 sc ((sc.toInt64) * (1000 : Int64)) cp (3 : Int32) (0 : Int32) tp qq b3) [(.long (own_we t0 ((sc.toInt64) * (1000 : Int64)))), (.long qq)])) (fun t k => st160 _ k) ?_
      refine own_go (B := T160.setTop (mkF m 169 (LS_JsJsIIJsJsIJsIIIJsJsRu q0 q1 p2 p3 q4 t0 sc ((sc.toInt64) * (1000 : Int64)) cp (3 : Int32) (0 : Int32) tp qq b3) [(.int (lcmpW qq (own_we t0 ((sc.toInt64) * (1000 : Int64)))))])) (fun t k => ?_) ?_
      · refine XS.lcmp X160.here hx rfl (hb hby at_168) rfl ?_
        exact k
      by_cases hc169_161 : qq < (own_we t0 ((sc.toInt64) * (1000 : Int64)))
      · refine own_go (B := T160.setTop (mkF m 217 (LS_JsJsIIJsJsIJsIIIJsJsRI q0 q1 p2 p3 q4 t0 sc ((sc.toInt64) * (1000 : Int64)) cp (3 : Int32) (0 : Int32) tp qq b3 (0 : Int32)) [(.long qq), (.ref b3)])) (fun t k => ?_) ?_
        · refine XS.ifYes X160.here hx rfl (pc0 := 169) (pc' := 176) rfl (hb hby at_169) rfl ((if0 _ _).trans (tlt ((lw_lt qq (own_we t0 ((sc.toInt64) * (1000 : Int64)))).mpr hc169_161)).1) (by decide) (by decide) ?_
          refine XS.iconst X160.here hx rfl (hb hby at_176) ?_
          show Steps p.tables e below (T160.setTop (mkF m 177 (LS_JsJsIIJsJsIJsIIIJsJsRu q0 q1 p2 p3 q4 t0 sc ((sc.toInt64) * (1000 : Int64)) cp (3 : Int32) (0 : Int32) tp qq b3) [(.int (0 : Int32))])) _
          refine XS.istore X160.here hx rfl (hb hby at_177) rfl (l' := (LS_JsJsIIJsJsIJsIIIJsJsRI q0 q1 p2 p3 q4 t0 sc ((sc.toInt64) * (1000 : Int64)) cp (3 : Int32) (0 : Int32) tp qq b3 (0 : Int32))) rfl ?_
          refine XS.goto X160.here hx rfl (pc0 := 179) (pc' := 213) rfl (hb hby at_179) (by decide) (by decide) ?_
          refine XS.aload X160.here hx rfl (hb hby at_213) rfl rfl ?_
          show Steps p.tables e below (T160.setTop (mkF m 215 (LS_JsJsIIJsJsIJsIIIJsJsRI q0 q1 p2 p3 q4 t0 sc ((sc.toInt64) * (1000 : Int64)) cp (3 : Int32) (0 : Int32) tp qq b3 (0 : Int32)) [(.ref b3)])) _
          refine XS.lload X160.here hx rfl (hb hby at_215) rfl ?_
          exact k
        have A3_v163 := A3_v155.keep K158
        obtain ⟨cq162, kq162, q162a, q162b, q162c⟩ := isOf hZ158 e160 A3_v163
        obtain ⟨_, _, ⟨T162, L162, k162, n162⟩, -, X162, ⟨Lc162, hQ162, l162, y162, z162⟩, st162⟩ := X160.virtualBack hx (y := (⟨"com/example/blend2/blend2/FixedWindow", "isIdleAt", "(J)Z"⟩ : MethodName)) (z := (⟨"com/example/blend2/blend2/FixedWindow", "isIdleAt", "(J)Z"⟩ : MethodName)) ho158 (mvT hZ158 (hw _ (List.mem_of_getElem? (i := 150) rfl))) (mvT hZ158 (hw _ (List.mem_of_getElem? (i := 151) rfl))) (notFace_of_selects (args := #[]) (mvT hZ158 (hw _ (List.mem_of_getElem? (i := 153) rfl)))) (mvT hZ158 (hw _ (List.mem_of_getElem? (i := 153) rfl))) (mvT hZ158 (hw _ (List.mem_of_getElem? (i := 152) rfl))) (by decide) (backOf (W := 0) (rmidl l Z a0 hw [] b3 qq ((sc.toInt64) * (1000 : Int64)) ((own_fd t0 ((sc.toInt64) * (1000 : Int64))) * ((sc.toInt64) * (1000 : Int64))) ad158 T158.heap n0 Z0_v159 Fa158 Fs158 Fm158) hZ158 (hw _ (List.mem_of_getElem? (i := 154) rfl)) (hw _ (List.mem_of_getElem? (i := 10) rfl)) (by decide) (by decide)) q162a q162c (g := (mkF m 217 (LS_JsJsIIJsJsIJsIIIJsJsRI q0 q1 p2 p3 q4 t0 sc ((sc.toInt64) * (1000 : Int64)) cp (3 : Int32) (0 : Int32) tp qq b3 (0 : Int32)) [(.long qq), (.ref b3)])) rfl (by rw [hml]; rfl) (Steps.refl _) (argsL := [(.long qq)]) (rest := []) (lenOf pd__J_Z rfl) rfl (by show 2 * 0 + _ ≤ _; exact Nat.le_of_eq rfl) (hb hby at_217) (fun _ _ => ⟨rfl, e160, (by decide : 37 + 0 ≤ _), (by decide : 428 + 0 ≤ _)⟩)
        dsimp only [Pt.U, Pt.locs, Pt.cells, Pt.slots] at X162 l162 y162 z162 st162 hQ162
        subst l162 y162 z162
        obtain ⟨rfl, N162q, e162⟩ := hQ162
        have N162 := Fr.app N160 N162q
        refine own_go (B := T162.setTop (mkF m 220 (LS_JsJsIIJsJsIJsIIIJsJsRI q0 q1 p2 p3 q4 t0 sc ((sc.toInt64) * (1000 : Int64)) cp (3 : Int32) (0 : Int32) tp qq b3 (0 : Int32)) [(.int (if ad158 = (0 : Int32) then (1 : Int32) else if qq < (((own_fd t0 ((sc.toInt64) * (1000 : Int64))) * ((sc.toInt64) * (1000 : Int64))) + ((sc.toInt64) * (1000 : Int64))) then (0 : Int32) else (1 : Int32)))])) (fun t k => st162.trans k) ?_
        refine own_go (B := T162.setTop (mkF m 230 (LS_JsJsIIJsJsIJsIIIJsJsRI q0 q1 p2 p3 q4 t0 sc ((sc.toInt64) * (1000 : Int64)) cp (3 : Int32) (0 : Int32) tp qq b3 (0 : Int32)) [(.int (1 : Int32))])) (fun t k => ?_) ?_
        · refine XS.iload X162.here hx rfl (hb hby at_220) rfl ?_
          refine XS.icmpNo X162.here hx rfl (hb hby at_222) rfl (teq (own_fin (own_n0 hb158) (own_same hw1 ht1 ht2) hc169_161)).2 ?_
          show Steps p.tables e below (T162.setTop (mkF m 225 (LS_JsJsIIJsJsIJsIIIJsJsRI q0 q1 p2 p3 q4 t0 sc ((sc.toInt64) * (1000 : Int64)) cp (3 : Int32) (0 : Int32) tp qq b3 (0 : Int32)) [])) _
          refine XS.iconst X162.here hx rfl (hb hby at_225) ?_
          refine XS.goto X162.here hx rfl (pc0 := 226) (pc' := 230) rfl (hb hby at_226) (by decide) (by decide) ?_
          exact k
        obtain ⟨fs, hr, hrun, hended, hRW⟩ := Stand.leaveW (s := s) (vm₁ := T158.vm) X162 hS158 (by rw [e162]; exact hk158) (v := some (.int (1 : Int32))) (fun h => by rw [Bd.returns] at h; cases h)
        refine ⟨_, _, ?_, hrun, hended, _, _, rfl, ?_, hRW.1, hRW.2.1, hRW.2.2.1, hRW.2.2.2.mono (by decide) (by decide)⟩
        · show Steps p.tables e below (T162.setTop (mkF m 230 (LS_JsJsIIJsJsIJsIIIJsJsRI q0 q1 p2 p3 q4 t0 sc ((sc.toInt64) * (1000 : Int64)) cp (3 : Int32) (0 : Int32) tp qq b3 (0 : Int32)) [(.int (1 : Int32))])) _
          exact retN X162 hx (t := .boolean) Bd.returns (by simp) (hb hby at_230) hr
        · show Q0 Z q0 q1 p2 p3 q4 w_Algorithm_SLIDING_WINDOW_LOG w_StoreFailurePolicy_OPEN w_Duration_ZERO h0 n0 _ T162.heap _
          rw [e162]
          exact ⟨rfl, N162⟩
      · refine own_go (B := T160.setTop (mkF m 217 (LS_JsJsIIJsJsIJsIIIJsJsRI q0 q1 p2 p3 q4 t0 sc ((sc.toInt64) * (1000 : Int64)) cp (3 : Int32) (0 : Int32) tp qq b3 (1 : Int32)) [(.long qq), (.ref b3)])) (fun t k => ?_) ?_
        · refine XS.ifNo X160.here hx rfl (hb hby at_169) rfl ((if0 _ _).trans (flt (fun q => hc169_161 ((lw_lt qq (own_we t0 ((sc.toInt64) * (1000 : Int64)))).mp q))).1) ?_
          refine XS.iconst X160.here hx rfl (hb hby at_172) ?_
          show Steps p.tables e below (T160.setTop (mkF m 173 (LS_JsJsIIJsJsIJsIIIJsJsRu q0 q1 p2 p3 q4 t0 sc ((sc.toInt64) * (1000 : Int64)) cp (3 : Int32) (0 : Int32) tp qq b3) [(.int (1 : Int32))])) _
          refine XS.goto X160.here hx rfl (pc0 := 173) (pc' := 177) rfl (hb hby at_173) (by decide) (by decide) ?_
          refine XS.istore X160.here hx rfl (hb hby at_177) rfl (l' := (LS_JsJsIIJsJsIJsIIIJsJsRI q0 q1 p2 p3 q4 t0 sc ((sc.toInt64) * (1000 : Int64)) cp (3 : Int32) (0 : Int32) tp qq b3 (1 : Int32))) rfl ?_
          refine XS.goto X160.here hx rfl (pc0 := 179) (pc' := 213) rfl (hb hby at_179) (by decide) (by decide) ?_
          show Steps p.tables e below (T160.setTop (mkF m 213 (LS_JsJsIIJsJsIJsIIIJsJsRI q0 q1 p2 p3 q4 t0 sc ((sc.toInt64) * (1000 : Int64)) cp (3 : Int32) (0 : Int32) tp qq b3 (1 : Int32)) [])) _
          refine XS.aload X160.here hx rfl (hb hby at_213) rfl rfl ?_
          refine XS.lload X160.here hx rfl (hb hby at_215) rfl ?_
          exact k
        have A3_v165 := A3_v155.keep K158
        obtain ⟨cq164, kq164, q164a, q164b, q164c⟩ := isOf hZ158 e160 A3_v165
        obtain ⟨_, _, ⟨T164, L164, k164, n164⟩, -, X164, ⟨Lc164, hQ164, l164, y164, z164⟩, st164⟩ := X160.virtualBack hx (y := (⟨"com/example/blend2/blend2/FixedWindow", "isIdleAt", "(J)Z"⟩ : MethodName)) (z := (⟨"com/example/blend2/blend2/FixedWindow", "isIdleAt", "(J)Z"⟩ : MethodName)) ho158 (mvT hZ158 (hw _ (List.mem_of_getElem? (i := 150) rfl))) (mvT hZ158 (hw _ (List.mem_of_getElem? (i := 151) rfl))) (notFace_of_selects (args := #[]) (mvT hZ158 (hw _ (List.mem_of_getElem? (i := 153) rfl)))) (mvT hZ158 (hw _ (List.mem_of_getElem? (i := 153) rfl))) (mvT hZ158 (hw _ (List.mem_of_getElem? (i := 152) rfl))) (by decide) (backOf (W := 0) (rmidl l Z a0 hw [] b3 qq ((sc.toInt64) * (1000 : Int64)) ((own_fd t0 ((sc.toInt64) * (1000 : Int64))) * ((sc.toInt64) * (1000 : Int64))) ad158 T158.heap n0 Z0_v159 Fa158 Fs158 Fm158) hZ158 (hw _ (List.mem_of_getElem? (i := 154) rfl)) (hw _ (List.mem_of_getElem? (i := 10) rfl)) (by decide) (by decide)) q164a q164c (g := (mkF m 217 (LS_JsJsIIJsJsIJsIIIJsJsRI q0 q1 p2 p3 q4 t0 sc ((sc.toInt64) * (1000 : Int64)) cp (3 : Int32) (0 : Int32) tp qq b3 (1 : Int32)) [(.long qq), (.ref b3)])) rfl (by rw [hml]; rfl) (Steps.refl _) (argsL := [(.long qq)]) (rest := []) (lenOf pd__J_Z rfl) rfl (by show 2 * 0 + _ ≤ _; exact Nat.le_of_eq rfl) (hb hby at_217) (fun _ _ => ⟨rfl, e160, (by decide : 37 + 0 ≤ _), (by decide : 428 + 0 ≤ _)⟩)
        dsimp only [Pt.U, Pt.locs, Pt.cells, Pt.slots] at X164 l164 y164 z164 st164 hQ164
        subst l164 y164 z164
        obtain ⟨rfl, N164q, e164⟩ := hQ164
        have N164 := Fr.app N160 N164q
        refine own_go (B := T164.setTop (mkF m 220 (LS_JsJsIIJsJsIJsIIIJsJsRI q0 q1 p2 p3 q4 t0 sc ((sc.toInt64) * (1000 : Int64)) cp (3 : Int32) (0 : Int32) tp qq b3 (1 : Int32)) [(.int (if ad158 = (0 : Int32) then (1 : Int32) else if qq < (((own_fd t0 ((sc.toInt64) * (1000 : Int64))) * ((sc.toInt64) * (1000 : Int64))) + ((sc.toInt64) * (1000 : Int64))) then (0 : Int32) else (1 : Int32)))])) (fun t k => st164.trans k) ?_
        refine own_go (B := T164.setTop (mkF m 230 (LS_JsJsIIJsJsIJsIIIJsJsRI q0 q1 p2 p3 q4 t0 sc ((sc.toInt64) * (1000 : Int64)) cp (3 : Int32) (0 : Int32) tp qq b3 (1 : Int32)) [(.int (1 : Int32))])) (fun t k => ?_) ?_
        · refine XS.iload X164.here hx rfl (hb hby at_220) rfl ?_
          refine XS.icmpNo X164.here hx rfl (hb hby at_222) rfl (teq (own_fin2 (own_n0 hb158) (own_same hw1 ht1 ht2) hc169_161)).2 ?_
          show Steps p.tables e below (T164.setTop (mkF m 225 (LS_JsJsIIJsJsIJsIIIJsJsRI q0 q1 p2 p3 q4 t0 sc ((sc.toInt64) * (1000 : Int64)) cp (3 : Int32) (0 : Int32) tp qq b3 (1 : Int32)) [])) _
          refine XS.iconst X164.here hx rfl (hb hby at_225) ?_
          refine XS.goto X164.here hx rfl (pc0 := 226) (pc' := 230) rfl (hb hby at_226) (by decide) (by decide) ?_
          exact k
        obtain ⟨fs, hr, hrun, hended, hRW⟩ := Stand.leaveW (s := s) (vm₁ := T158.vm) X164 hS158 (by rw [e164]; exact hk158) (v := some (.int (1 : Int32))) (fun h => by rw [Bd.returns] at h; cases h)
        refine ⟨_, _, ?_, hrun, hended, _, _, rfl, ?_, hRW.1, hRW.2.1, hRW.2.2.1, hRW.2.2.2.mono (by decide) (by decide)⟩
        · show Steps p.tables e below (T164.setTop (mkF m 230 (LS_JsJsIIJsJsIJsIIIJsJsRI q0 q1 p2 p3 q4 t0 sc ((sc.toInt64) * (1000 : Int64)) cp (3 : Int32) (0 : Int32) tp qq b3 (1 : Int32)) [(.int (1 : Int32))])) _
          exact retN X164 hx (t := .boolean) Bd.returns (by simp) (hb hby at_230) hr
        · show Q0 Z q0 q1 p2 p3 q4 w_Algorithm_SLIDING_WINDOW_LOG w_StoreFailurePolicy_OPEN w_Duration_ZERO h0 n0 _ T164.heap _
          rw [e164]
          exact ⟨rfl, N164⟩
  · refine own_go (B := T1.setTop (mkF m 78 (LS_JsJsIIJsJsIJsIIIJsJsuu q0 q1 p2 p3 q4 (q0 >>> ((2 : Int32) &&& 0x3f).toInt64) (if (1 : Int32) < (p2 &&& (2147483647 : Int32)) then (p2 &&& (2147483647 : Int32)) else (1 : Int32)) (((if (1 : Int32) < (p2 &&& (2147483647 : Int32)) then (p2 &&& (2147483647 : Int32)) else (1 : Int32)).toInt64) * (1000 : Int64)) ((1 : Int32) + (p3 &&& (1 : Int32))) (((p3.toUInt32 >>> ((1 : Int32) &&& 31).toUInt32).toInt32) &&& (3 : Int32)) (1 : Int32) ((q0 >>> ((2 : Int32) &&& 0x3f).toInt64) - (q4 &&& (1099511627775 : Int64))) ((q0 >>> ((2 : Int32) &&& 0x3f).toInt64) + (q1 &&& (4398046511103 : Int64)))) [])) (fun t k => ?_) ?_
    · refine XS.ifNo X1.here hx rfl (hb hby at_47) rfl ((if0 _ _).trans (feq hc47_2).1) ?_
      refine XS.iconst X1.here hx rfl (hb hby at_50) ?_
      show Steps p.tables e below (T1.setTop (mkF m 51 (LS_JsJsIIJsJsIJsIIuuuuuuu q0 q1 p2 p3 q4 (q0 >>> ((2 : Int32) &&& 0x3f).toInt64) (if (1 : Int32) < (p2 &&& (2147483647 : Int32)) then (p2 &&& (2147483647 : Int32)) else (1 : Int32)) (((if (1 : Int32) < (p2 &&& (2147483647 : Int32)) then (p2 &&& (2147483647 : Int32)) else (1 : Int32)).toInt64) * (1000 : Int64)) ((1 : Int32) + (p3 &&& (1 : Int32))) (((p3.toUInt32 >>> ((1 : Int32) &&& 31).toUInt32).toInt32) &&& (3 : Int32))) [(.int (1 : Int32))])) _
      refine XS.goto X1.here hx rfl (pc0 := 51) (pc' := 55) rfl (hb hby at_51) (by decide) (by decide) ?_
      refine XS.istore X1.here hx rfl (hb hby at_55) rfl (l' := (LS_JsJsIIJsJsIJsIIIuuuuuu q0 q1 p2 p3 q4 (q0 >>> ((2 : Int32) &&& 0x3f).toInt64) (if (1 : Int32) < (p2 &&& (2147483647 : Int32)) then (p2 &&& (2147483647 : Int32)) else (1 : Int32)) (((if (1 : Int32) < (p2 &&& (2147483647 : Int32)) then (p2 &&& (2147483647 : Int32)) else (1 : Int32)).toInt64) * (1000 : Int64)) ((1 : Int32) + (p3 &&& (1 : Int32))) (((p3.toUInt32 >>> ((1 : Int32) &&& 31).toUInt32).toInt32) &&& (3 : Int32)) (1 : Int32))) rfl ?_
      refine XS.lload X1.here hx rfl (hb hby at_57) rfl ?_
      show Steps p.tables e below (T1.setTop (mkF m 59 (LS_JsJsIIJsJsIJsIIIuuuuuu q0 q1 p2 p3 q4 (q0 >>> ((2 : Int32) &&& 0x3f).toInt64) (if (1 : Int32) < (p2 &&& (2147483647 : Int32)) then (p2 &&& (2147483647 : Int32)) else (1 : Int32)) (((if (1 : Int32) < (p2 &&& (2147483647 : Int32)) then (p2 &&& (2147483647 : Int32)) else (1 : Int32)).toInt64) * (1000 : Int64)) ((1 : Int32) + (p3 &&& (1 : Int32))) (((p3.toUInt32 >>> ((1 : Int32) &&& 31).toUInt32).toInt32) &&& (3 : Int32)) (1 : Int32)) [(.long (q0 >>> ((2 : Int32) &&& 0x3f).toInt64))])) _
      refine XS.lload X1.here hx rfl (hb hby at_59) rfl ?_
      refine X1.ldc2Long hx hown (mvT hZ (hw _ (List.mem_of_getElem? (i := 6) rfl))) (g := (mkF m 61 (LS_JsJsIIJsJsIJsIIIuuuuuu q0 q1 p2 p3 q4 (q0 >>> ((2 : Int32) &&& 0x3f).toInt64) (if (1 : Int32) < (p2 &&& (2147483647 : Int32)) then (p2 &&& (2147483647 : Int32)) else (1 : Int32)) (((if (1 : Int32) < (p2 &&& (2147483647 : Int32)) then (p2 &&& (2147483647 : Int32)) else (1 : Int32)).toInt64) * (1000 : Int64)) ((1 : Int32) + (p3 &&& (1 : Int32))) (((p3.toUInt32 >>> ((1 : Int32) &&& 31).toUInt32).toInt32) &&& (3 : Int32)) (1 : Int32)) [(.long q4), (.long (q0 >>> ((2 : Int32) &&& 0x3f).toInt64))])) rfl (hb hby at_61) _ ?_
      refine XS.land X1.here hx rfl (hb hby at_64) rfl ?_
      show Steps p.tables e below (T1.setTop (mkF m 65 (LS_JsJsIIJsJsIJsIIIuuuuuu q0 q1 p2 p3 q4 (q0 >>> ((2 : Int32) &&& 0x3f).toInt64) (if (1 : Int32) < (p2 &&& (2147483647 : Int32)) then (p2 &&& (2147483647 : Int32)) else (1 : Int32)) (((if (1 : Int32) < (p2 &&& (2147483647 : Int32)) then (p2 &&& (2147483647 : Int32)) else (1 : Int32)).toInt64) * (1000 : Int64)) ((1 : Int32) + (p3 &&& (1 : Int32))) (((p3.toUInt32 >>> ((1 : Int32) &&& 31).toUInt32).toInt32) &&& (3 : Int32)) (1 : Int32)) [(.long (q4 &&& (1099511627775 : Int64))), (.long (q0 >>> ((2 : Int32) &&& 0x3f).toInt64))])) _
      refine XS.lsub X1.here hx rfl (hb hby at_65) rfl ?_
      refine XS.lstore X1.here hx rfl (hb hby at_66) rfl (l' := (LS_JsJsIIJsJsIJsIIIJsuuuu q0 q1 p2 p3 q4 (q0 >>> ((2 : Int32) &&& 0x3f).toInt64) (if (1 : Int32) < (p2 &&& (2147483647 : Int32)) then (p2 &&& (2147483647 : Int32)) else (1 : Int32)) (((if (1 : Int32) < (p2 &&& (2147483647 : Int32)) then (p2 &&& (2147483647 : Int32)) else (1 : Int32)).toInt64) * (1000 : Int64)) ((1 : Int32) + (p3 &&& (1 : Int32))) (((p3.toUInt32 >>> ((1 : Int32) &&& 31).toUInt32).toInt32) &&& (3 : Int32)) (1 : Int32) ((q0 >>> ((2 : Int32) &&& 0x3f).toInt64) - (q4 &&& (1099511627775 : Int64))))) rfl ?_
      refine XS.lload X1.here hx rfl (hb hby at_68) rfl ?_
      show Steps p.tables e below (T1.setTop (mkF m 70 (LS_JsJsIIJsJsIJsIIIJsuuuu q0 q1 p2 p3 q4 (q0 >>> ((2 : Int32) &&& 0x3f).toInt64) (if (1 : Int32) < (p2 &&& (2147483647 : Int32)) then (p2 &&& (2147483647 : Int32)) else (1 : Int32)) (((if (1 : Int32) < (p2 &&& (2147483647 : Int32)) then (p2 &&& (2147483647 : Int32)) else (1 : Int32)).toInt64) * (1000 : Int64)) ((1 : Int32) + (p3 &&& (1 : Int32))) (((p3.toUInt32 >>> ((1 : Int32) &&& 31).toUInt32).toInt32) &&& (3 : Int32)) (1 : Int32) ((q0 >>> ((2 : Int32) &&& 0x3f).toInt64) - (q4 &&& (1099511627775 : Int64)))) [(.long (q0 >>> ((2 : Int32) &&& 0x3f).toInt64))])) _
      refine XS.lloadN X1.here hx rfl (hb hby at_70) rfl ?_
      refine X1.ldc2Long hx hown (mvT hZ (hw _ (List.mem_of_getElem? (i := 7) rfl))) (g := (mkF m 71 (LS_JsJsIIJsJsIJsIIIJsuuuu q0 q1 p2 p3 q4 (q0 >>> ((2 : Int32) &&& 0x3f).toInt64) (if (1 : Int32) < (p2 &&& (2147483647 : Int32)) then (p2 &&& (2147483647 : Int32)) else (1 : Int32)) (((if (1 : Int32) < (p2 &&& (2147483647 : Int32)) then (p2 &&& (2147483647 : Int32)) else (1 : Int32)).toInt64) * (1000 : Int64)) ((1 : Int32) + (p3 &&& (1 : Int32))) (((p3.toUInt32 >>> ((1 : Int32) &&& 31).toUInt32).toInt32) &&& (3 : Int32)) (1 : Int32) ((q0 >>> ((2 : Int32) &&& 0x3f).toInt64) - (q4 &&& (1099511627775 : Int64)))) [(.long q1), (.long (q0 >>> ((2 : Int32) &&& 0x3f).toInt64))])) rfl (hb hby at_71) _ ?_
      refine XS.land X1.here hx rfl (hb hby at_74) rfl ?_
      show Steps p.tables e below (T1.setTop (mkF m 75 (LS_JsJsIIJsJsIJsIIIJsuuuu q0 q1 p2 p3 q4 (q0 >>> ((2 : Int32) &&& 0x3f).toInt64) (if (1 : Int32) < (p2 &&& (2147483647 : Int32)) then (p2 &&& (2147483647 : Int32)) else (1 : Int32)) (((if (1 : Int32) < (p2 &&& (2147483647 : Int32)) then (p2 &&& (2147483647 : Int32)) else (1 : Int32)).toInt64) * (1000 : Int64)) ((1 : Int32) + (p3 &&& (1 : Int32))) (((p3.toUInt32 >>> ((1 : Int32) &&& 31).toUInt32).toInt32) &&& (3 : Int32)) (1 : Int32) ((q0 >>> ((2 : Int32) &&& 0x3f).toInt64) - (q4 &&& (1099511627775 : Int64)))) [(.long (q1 &&& (4398046511103 : Int64))), (.long (q0 >>> ((2 : Int32) &&& 0x3f).toInt64))])) _
      refine XS.ladd X1.here hx rfl (hb hby at_75) rfl ?_
      refine XS.lstore X1.here hx rfl (hb hby at_76) rfl (l' := (LS_JsJsIIJsJsIJsIIIJsJsuu q0 q1 p2 p3 q4 (q0 >>> ((2 : Int32) &&& 0x3f).toInt64) (if (1 : Int32) < (p2 &&& (2147483647 : Int32)) then (p2 &&& (2147483647 : Int32)) else (1 : Int32)) (((if (1 : Int32) < (p2 &&& (2147483647 : Int32)) then (p2 &&& (2147483647 : Int32)) else (1 : Int32)).toInt64) * (1000 : Int64)) ((1 : Int32) + (p3 &&& (1 : Int32))) (((p3.toUInt32 >>> ((1 : Int32) &&& 31).toUInt32).toInt32) &&& (3 : Int32)) (1 : Int32) ((q0 >>> ((2 : Int32) &&& 0x3f).toInt64) - (q4 &&& (1099511627775 : Int64))) ((q0 >>> ((2 : Int32) &&& 0x3f).toInt64) + (q1 &&& (4398046511103 : Int64))))) rfl ?_
      exact k
    obtain ⟨t0, e_t0⟩ : ∃ z, z = (q0 >>> ((2 : Int32) &&& 0x3f).toInt64) := ⟨_, rfl⟩
    obtain ⟨sc, e_sc⟩ : ∃ z, z = (if (1 : Int32) < (p2 &&& (2147483647 : Int32)) then (p2 &&& (2147483647 : Int32)) else (1 : Int32)) := ⟨_, rfl⟩
    obtain ⟨cp, e_cp⟩ : ∃ z, z = ((1 : Int32) + (p3 &&& (1 : Int32))) := ⟨_, rfl⟩
    obtain ⟨nn, e_nn⟩ : ∃ z, z = (((p3.toUInt32 >>> ((1 : Int32) &&& 31).toUInt32).toInt32) &&& (3 : Int32)) := ⟨_, rfl⟩
    obtain ⟨tp, e_tp⟩ : ∃ z, z = ((q0 >>> ((2 : Int32) &&& 0x3f).toInt64) - (q4 &&& (1099511627775 : Int64))) := ⟨_, rfl⟩
    obtain ⟨qq, e_qq⟩ : ∃ z, z = ((q0 >>> ((2 : Int32) &&& 0x3f).toInt64) + (q1 &&& (4398046511103 : Int64))) := ⟨_, rfl⟩
    refine own_go (B := T1.setTop (mkF m 78 (LS_JsJsIIJsJsIJsIIIJsJsuu q0 q1 p2 p3 q4 t0 sc ((sc.toInt64) * (1000 : Int64)) cp nn (1 : Int32) tp qq) [])) (fun t k => by rw [e_t0, e_sc, e_cp, e_nn, e_tp, e_qq] at k; exact k) ?_
    have hsc : 1 ≤ sc.toInt := by rw [e_sc]; exact own_sec _
    have hw1 := own_wm hsc
    have hcp : 1 ≤ cp.toInt ∧ cp.toInt ≤ 2 := by rw [e_cp]; exact own_cap _
    have hb0 : -2305843009213693952 ≤ t0.toInt ∧ t0.toInt < 2305843009213693952 := by rw [e_t0]; exact own_t0 _
    have ht1 : -4611686018427387904 ≤ t0.toInt := by omega
    have ht2 : t0.toInt ≤ 4611686018427387904 := by omega
    have hep : ((t0 - (q4 &&& (1099511627775 : Int64)))).toInt = t0.toInt - ((q4 &&& (1099511627775 : Int64))).toInt := by
      have hm := Jvm.Kit.i64_mask q4 1099511627775 (k := 40) (by decide) (by decide)
      exact Jvm.Kit.i64_sub (by omega) (by omega)
    have hpp : -4611686018427387904 ≤ tp.toInt ∧ tp.toInt ≤ 4611686018427387904 := by
      have hm := Jvm.Kit.i64_mask q4 1099511627775 (k := 40) (by decide) (by decide)
      rw [e_tp, ← e_t0, hep]
      omega
    have hp1 := hpp.1
    have hp2 := hpp.2
    obtain ⟨T166, h166, X166, e166, E166, A166, D166, -, st166⟩ := newO X1 hx hZ hown (hw _ (List.mem_of_getElem? (i := 8) rfl)) (hw _ (List.mem_of_getElem? (i := 9) rfl)) (hw _ (List.mem_of_getElem? (i := 10) rfl)) e1 (g := (mkF m 78 (LS_JsJsIIJsJsIJsIIIJsJsuu q0 q1 p2 p3 q4 t0 sc ((sc.toInt64) * (1000 : Int64)) cp nn (1 : Int32) tp qq) [])) rfl (hb hby at_78) (by decide) (by decide)
    obtain ⟨b166, g166⟩ : ∃ z, z = h0.size := ⟨_, rfl⟩
    rw [← g166] at A166 D166 st166
    have g_b166 : n0 ≤ b166 := Nat.le_trans Z0 (Nat.le_of_eq g166.symm)
    have F166_rule : Fld Z h166 b166 "com/example/blend2/blend2/FixedWindow" "rule" "Lcom/example/blend2/blend2/Rule;" .null := D166 (Or.inr (hw _ (List.mem_of_getElem? (i := 66) rfl))) (ty := (.object "com/example/blend2/blend2/Rule")) (by decide)
    have F166_windowMillis : Fld Z h166 b166 "com/example/blend2/blend2/FixedWindow" "windowMillis" "J" (.long (0 : Int64)) := D166 (Or.inr (hw _ (List.mem_of_getElem? (i := 74) rfl))) (ty := .long) (by decide)
    have F166_windowStart : Fld Z h166 b166 "com/example/blend2/blend2/FixedWindow" "windowStart" "J" (.long (0 : Int64)) := D166 (Or.inl (hw _ (List.mem_of_getElem? (i := 84) rfl))) (ty := .long) (by decide)
    have F166_admitted : Fld Z h166 b166 "com/example/blend2/blend2/FixedWindow" "admitted" "I" (.int (0 : Int32)) := D166 (Or.inl (hw _ (List.mem_of_getElem? (i := 86) rfl))) (ty := .int) (by decide)
    refine own_go (B := T166.setTop (mkF m 81 (LS_JsJsIIJsJsIJsIIIJsJsuu q0 q1 p2 p3 q4 t0 sc ((sc.toInt64) * (1000 : Int64)) cp nn (1 : Int32) tp qq) [(.ref b166)])) (fun t k => st166 _ k) ?_
    refine own_go (B := T166.setTop (mkF m 82 (LS_JsJsIIJsJsIJsIIIJsJsuu q0 q1 p2 p3 q4 t0 sc ((sc.toInt64) * (1000 : Int64)) cp nn (1 : Int32) tp qq) [(.ref b166), (.ref b166)])) (fun t k => ?_) ?_
    · refine XS.dup X166.here hx rfl (hb hby at_81) rfl rfl ?_
      exact k
    obtain ⟨T167, h167, X167, e167, E167, A167, D167, -, st167⟩ := newO X166 hx hZ hown (hw _ (List.mem_of_getElem? (i := 11) rfl)) (hw _ (List.mem_of_getElem? (i := 12) rfl)) (hw _ (List.mem_of_getElem? (i := 13) rfl)) e166 (g := (mkF m 82 (LS_JsJsIIJsJsIJsIIIJsJsuu q0 q1 p2 p3 q4 t0 sc ((sc.toInt64) * (1000 : Int64)) cp nn (1 : Int32) tp qq) [(.ref b166), (.ref b166)])) rfl (hb hby at_82) (by decide) (by decide)
    obtain ⟨b167, g167⟩ : ∃ z, z = h166.size := ⟨_, rfl⟩
    rw [← g167] at A167 D167 st167
    have Z0_v168 := Nat.le_trans Z0 E166.1
    have g_b167 : n0 ≤ b167 := Nat.le_trans Z0_v168 (Nat.le_of_eq g167.symm)
    have F167_name : Fld Z h167 b167 "com/example/blend2/blend2/Rule" "name" "Ljava/lang/String;" .null := D167 (Or.inr (hw _ (List.mem_of_getElem? (i := 52) rfl))) (ty := (.object "java/lang/String")) (by decide)
    have F167_capacity : Fld Z h167 b167 "com/example/blend2/blend2/Rule" "capacity" "I" (.int (0 : Int32)) := D167 (Or.inr (hw _ (List.mem_of_getElem? (i := 54) rfl))) (ty := .int) (by decide)
    have F167_timeWindowSec : Fld Z h167 b167 "com/example/blend2/blend2/Rule" "timeWindowSec" "I" (.int (0 : Int32)) := D167 (Or.inr (hw _ (List.mem_of_getElem? (i := 56) rfl))) (ty := .int) (by decide)
    have F167_algorithm : Fld Z h167 b167 "com/example/blend2/blend2/Rule" "algorithm" "Lcom/example/blend2/blend2/Algorithm;" .null := D167 (Or.inr (hw _ (List.mem_of_getElem? (i := 58) rfl))) (ty := (.object "com/example/blend2/blend2/Algorithm")) (by decide)
    have F167_onStoreFailure : Fld Z h167 b167 "com/example/blend2/blend2/Rule" "onStoreFailure" "Lcom/example/blend2/blend2/StoreFailurePolicy;" .null := D167 (Or.inr (hw _ (List.mem_of_getElem? (i := 60) rfl))) (ty := (.object "com/example/blend2/blend2/StoreFailurePolicy")) (by decide)
    refine own_go (B := T167.setTop (mkF m 85 (LS_JsJsIIJsJsIJsIIIJsJsuu q0 q1 p2 p3 q4 t0 sc ((sc.toInt64) * (1000 : Int64)) cp nn (1 : Int32) tp qq) [(.ref b167), (.ref b166), (.ref b166)])) (fun t k => st167 _ k) ?_
    refine own_go (B := T167.setTop (mkF m 86 (LS_JsJsIIJsJsIJsIIIJsJsuu q0 q1 p2 p3 q4 t0 sc ((sc.toInt64) * (1000 : Int64)) cp nn (1 : Int32) tp qq) [(.ref b167), (.ref b167), (.ref b166), (.ref b166)])) (fun t k => ?_) ?_
    · refine XS.dup X167.here hx rfl (hb hby at_85) rfl rfl ?_
      exact k
    have hk0_v170 := Nat.le_trans hk0 E166.1
    have hk0_v171 := Nat.le_trans hk0_v170 E167.1
    obtain ⟨sa169, T169, h169, kk169, X169, e169, E169, hS169, hk169, hZ169, ho169, st169⟩ := ldcS (s := s) (vm0 := s.vm) X167 hx hZ hown (hw _ (List.mem_of_getElem? (i := 14) rfl)) (own_strs hw) e167 hS0 hk0_v171 (g := (mkF m 86 (LS_JsJsIIJsJsIJsIIIJsJsuu q0 q1 p2 p3 q4 t0 sc ((sc.toInt64) * (1000 : Int64)) cp nn (1 : Int32) tp qq) [(.ref b167), (.ref b167), (.ref b166), (.ref b166)])) rfl (hb hby at_86) (n := 4) (by decide) (by decide) (by decide) (by decide)
    refine own_go (B := T169.setTop (mkF m 88 (LS_JsJsIIJsJsIJsIIIJsJsuu q0 q1 p2 p3 q4 t0 sc ((sc.toInt64) * (1000 : Int64)) cp nn (1 : Int32) tp qq) [(.ref sa169), (.ref b167), (.ref b167), (.ref b166), (.ref b166)])) (fun t k => st169 _ k) ?_
    refine own_go (B := T169.setTop (mkF m 92 (LS_JsJsIIJsJsIJsIIIJsJsuu q0 q1 p2 p3 q4 t0 sc ((sc.toInt64) * (1000 : Int64)) cp nn (1 : Int32) tp qq) [(.int sc), (.int cp), (.ref sa169), (.ref b167), (.ref b167), (.ref b166), (.ref b166)])) (fun t k => ?_) ?_
    · refine XS.iload X169.here hx rfl (hb hby at_88) rfl ?_
      refine XS.iload X169.here hx rfl (hb hby at_90) rfl ?_
      exact k
    have S_Rule_DEFAULT_ALGORITHM_v172 := S_Rule_DEFAULT_ALGORITHM.ext E166
    have S_Rule_DEFAULT_ALGORITHM_v173 := S_Rule_DEFAULT_ALGORITHM_v172.ext E167
    have S_Rule_DEFAULT_ALGORITHM_v174 := S_Rule_DEFAULT_ALGORITHM_v173.ext E169
    have S_Rule_DEFAULT_STORE_FAILURE_POLICY_v175 := S_Rule_DEFAULT_STORE_FAILURE_POLICY.ext E166
    have S_Rule_DEFAULT_STORE_FAILURE_POLICY_v176 := S_Rule_DEFAULT_STORE_FAILURE_POLICY_v175.ext E167
    have S_Rule_DEFAULT_STORE_FAILURE_POLICY_v177 := S_Rule_DEFAULT_STORE_FAILURE_POLICY_v176.ext E169
    have Z0_v178 := Nat.le_trans Z0_v168 E167.1
    have Z0_v179 := Nat.le_trans Z0_v178 E169.1
    have A167_v180 := A167.ext E169
    have F167_name_v181 := F167_name.ext E169
    have F167_capacity_v182 := F167_capacity.ext E169
    have F167_timeWindowSec_v183 := F167_timeWindowSec.ext E169
    have F167_algorithm_v184 := F167_algorithm.ext E169
    have F167_onStoreFailure_v185 := F167_onStoreFailure.ext E169
    obtain ⟨_, _, ⟨T186, L186, k186, n186⟩, -, X186, hs186, hg186, ⟨Lc186, hQ186, l186, y186, z186⟩, st186⟩ := X169.specialBackS hx (y := (⟨"com/example/blend2/blend2/Rule", "<init>", "(Ljava/lang/String;II)V"⟩ : MethodName)) rfl ho169 (mvT hZ169 (hw _ (List.mem_of_getElem? (i := 22) rfl))) (mvT hZ169 (hw _ (List.mem_of_getElem? (i := 23) rfl))) (mvT hZ169 (hw _ (List.mem_of_getElem? (i := 24) rfl))) (by decide) (backOfS (W := 3) (rmru3 l Z a0 hw [] b167 sa169 cp sc w_Algorithm_SLIDING_WINDOW_LOG w_StoreFailurePolicy_OPEN h169 n0 Z0_v179 S_Rule_DEFAULT_ALGORITHM_v174 S_Rule_DEFAULT_STORE_FAILURE_POLICY_v177 A167_v180 F167_name_v181 F167_capacity_v182 F167_timeWindowSec_v183 F167_algorithm_v184 F167_onStoreFailure_v185 (own_ge1 hcp.1) (own_ge1 hsc) g_b167) hZ169 (hw _ (List.mem_of_getElem? (i := 24) rfl)) (hw _ (List.mem_of_getElem? (i := 13) rfl)) (by decide) (by decide)) (g := (mkF m 92 (LS_JsJsIIJsJsIJsIIIJsJsuu q0 q1 p2 p3 q4 t0 sc ((sc.toInt64) * (1000 : Int64)) cp nn (1 : Int32) tp qq) [(.int sc), (.int cp), (.ref sa169), (.ref b167), (.ref b167), (.ref b166), (.ref b166)])) rfl (by rw [hml]; rfl) (Steps.refl _) (a := b167) (argsL := [(.ref sa169), (.int cp), (.int sc)]) (rest := [(.ref b167), (.ref b166), (.ref b166)]) (lenOf pd__Ljava_lang_String_II_V rfl) rfl (by show 2 * 0 + _ ≤ _; exact Nat.le_of_eq rfl) (hb hby at_92) (fun _ _ => ⟨rfl, e169, (by decide : 4 + 6 ≤ _), (by decide : 17 + 120 ≤ _)⟩)
    dsimp only [Pt.U, Pt.locs, Pt.cells, Pt.slots] at X186 l186 y186 z186 st186 hQ186 hs186 hg186
    subst l186 y186 z186
    have hS186 : s.Since T186.vm T186.heap.size := foldS (s := s) (vm0 := T169.vm) (T := T169) (U := T186) hS169 (by rw [e169]; exact hk169) hs186 hg186
    have hZ186 : Z.Warmed39 (s.setVm T186.vm).vm := State.Warmed39.trans (t := s.setVm T169.vm) hZ169 hs186.1
    have ho186 : (s.setVm T186.vm).vm.findClass "com/example/blend2/blend2/FixedWindowIsIdleAtPinLaw" = some m.cls := by rw [show (s.setVm T186.vm).vm = T186.vm from rfl, hs186.1.alike.findClass]; exact ho169
    obtain ⟨rfl, N186q, K186, Fc186, Ft186⟩ := hQ186
    have N186 := Fr.app N1 N186q
    have hk186 : T186.heap.size ≤ T186.heap.size := Nat.le_refl _
    refine own_go (B := T186.setTop (mkF m 95 (LS_JsJsIIJsJsIJsIIIJsJsuu q0 q1 p2 p3 q4 t0 sc ((sc.toInt64) * (1000 : Int64)) cp nn (1 : Int32) tp qq) [(.ref b167), (.ref b166), (.ref b166)])) (fun t k => st186.trans k) ?_
    have Z0_v187 := Nat.le_trans Z0_v179 K186.1
    have A166_v188 := A166.ext E167
    have A166_v189 := A166_v188.ext E169
    have A166_v190 := A166_v189.keep K186
    have A167_v191 := A167_v180.keep K186
    have F166_rule_v192 := F166_rule.ext E167
    have F166_rule_v193 := F166_rule_v192.ext E169
    have ne195 : b166 ≠ b167 := Nat.ne_of_lt (Nat.lt_of_lt_of_le A166.lt (Nat.le_of_eq g167.symm))
    have F166_rule_v194 := F166_rule_v193.keep K186 (ninS ne195 nin0)
    have F166_windowMillis_v196 := F166_windowMillis.ext E167
    have F166_windowMillis_v197 := F166_windowMillis_v196.ext E169
    have F166_windowMillis_v198 := F166_windowMillis_v197.keep K186 (ninS ne195 nin0)
    have F166_windowStart_v199 := F166_windowStart.ext E167
    have F166_windowStart_v200 := F166_windowStart_v199.ext E169
    have F166_windowStart_v201 := F166_windowStart_v200.keep K186 (ninS ne195 nin0)
    have F166_admitted_v202 := F166_admitted.ext E167
    have F166_admitted_v203 := F166_admitted_v202.ext E169
    have F166_admitted_v204 := F166_admitted_v203.keep K186 (ninS ne195 nin0)
    obtain ⟨_, _, ⟨T205, L205, k205, n205⟩, -, X205, ⟨Lc205, hQ205, l205, y205, z205⟩, st205⟩ := X186.specialBack hx (y := (⟨"com/example/blend2/blend2/FixedWindow", "<init>", "(Lcom/example/blend2/blend2/Rule;)V"⟩ : MethodName)) rfl ho186 (mvT hZ186 (hw _ (List.mem_of_getElem? (i := 61) rfl))) (mvT hZ186 (hw _ (List.mem_of_getElem? (i := 62) rfl))) (mvT hZ186 (hw _ (List.mem_of_getElem? (i := 63) rfl))) (by decide) (backOf (W := 1) (rmfwi l Z a0 hw [] b166 b167 sc T186.heap n0 Z0_v187 A166_v190 A167_v191 Ft186 F166_rule_v194 F166_windowMillis_v198 F166_windowStart_v201 F166_admitted_v204 (Ne.symm ne195) g_b166) hZ186 (hw _ (List.mem_of_getElem? (i := 63) rfl)) (hw _ (List.mem_of_getElem? (i := 10) rfl)) (by decide) (by decide)) (g := (mkF m 95 (LS_JsJsIIJsJsIJsIIIJsJsuu q0 q1 p2 p3 q4 t0 sc ((sc.toInt64) * (1000 : Int64)) cp nn (1 : Int32) tp qq) [(.ref b167), (.ref b166), (.ref b166)])) rfl (by rw [hml]; rfl) (Steps.refl _) (a := b166) (argsL := [(.ref b167)]) (rest := [(.ref b166)]) (lenOf pd__Lcom_example_blend2_blend2_Rule__V rfl) rfl (by show 2 * 0 + _ ≤ _; exact Nat.le_of_eq rfl) (hb hby at_95) (fun _ _ => ⟨rfl, rfl, (by decide : 10 + 0 ≤ _), (by decide : 137 + 0 ≤ _)⟩)
    dsimp only [Pt.U, Pt.locs, Pt.cells, Pt.slots] at X205 l205 y205 z205 st205 hQ205
    subst l205 y205 z205
    obtain ⟨rfl, N205q, K205, Fr205, Fm205, Fs205, Fa205⟩ := hQ205
    have N205 := Fr.app N186 N205q
    refine own_go (B := T205.setTop (mkF m 98 (LS_JsJsIIJsJsIJsIIIJsJsuu q0 q1 p2 p3 q4 t0 sc ((sc.toInt64) * (1000 : Int64)) cp nn (1 : Int32) tp qq) [(.ref b166)])) (fun t k => st205.trans k) ?_
    refine own_go (B := T205.setTop (mkF m 109 (LS_JsJsIIJsJsIJsIIIJsJsRu q0 q1 p2 p3 q4 t0 sc ((sc.toInt64) * (1000 : Int64)) cp nn (1 : Int32) tp qq b166) [(.long tp), (.ref b166)])) (fun t k => ?_) ?_
    · refine XS.astore X205.here hx rfl (hb hby at_98) rfl rfl (l' := (LS_JsJsIIJsJsIJsIIIJsJsRu q0 q1 p2 p3 q4 t0 sc ((sc.toInt64) * (1000 : Int64)) cp nn (1 : Int32) tp qq b166)) rfl ?_
      refine XS.iload X205.here hx rfl (hb hby at_100) rfl ?_
      show Steps p.tables e below (T205.setTop (mkF m 102 (LS_JsJsIIJsJsIJsIIIJsJsRu q0 q1 p2 p3 q4 t0 sc ((sc.toInt64) * (1000 : Int64)) cp nn (1 : Int32) tp qq b166) [(.int (1 : Int32))])) _
      refine XS.ifNo X205.here hx rfl (hb hby at_102) rfl ((if0 _ _).trans (feq (by decide : ¬ ((1 : Int32) = (0 : Int32)))).1) ?_
      refine XS.aload X205.here hx rfl (hb hby at_105) rfl rfl ?_
      refine XS.lload X205.here hx rfl (hb hby at_107) rfl ?_
      exact k
    have Z0_v206 := Nat.le_trans Z0_v187 K205.1
    have S_Duration_ZERO_v207 := S_Duration_ZERO.ext E166
    have S_Duration_ZERO_v208 := S_Duration_ZERO_v207.ext E167
    have S_Duration_ZERO_v209 := S_Duration_ZERO_v208.ext E169
    have S_Duration_ZERO_v210 := own_sta_keep S_Duration_ZERO_v209 K186 (allS (own_plain_E A167_v180) all0)
    have S_Duration_ZERO_v211 := own_sta_keep S_Duration_ZERO_v210 K205 (allS (own_plain_E A166_v190) all0)
    have E_Duration_ZERO_v212 := E_Duration_ZERO.ext E166
    have E_Duration_ZERO_v213 := E_Duration_ZERO_v212.ext E167
    have E_Duration_ZERO_v214 := E_Duration_ZERO_v213.ext E169
    have E_Duration_ZERO_v215 := E_Duration_ZERO_v214.keep K186
    have E_Duration_ZERO_v216 := E_Duration_ZERO_v215.keep K205
    have F_Duration_ZERO_seconds_v217 := F_Duration_ZERO_seconds.ext E166
    have F_Duration_ZERO_seconds_v218 := F_Duration_ZERO_seconds_v217.ext E167
    have F_Duration_ZERO_seconds_v219 := F_Duration_ZERO_seconds_v218.ext E169
    have ne221 : w_Duration_ZERO ≠ b167 := Nat.ne_of_lt (Nat.lt_of_lt_of_le F_Duration_ZERO_seconds_v217.lt (Nat.le_of_eq g167.symm))
    have F_Duration_ZERO_seconds_v220 := F_Duration_ZERO_seconds_v219.keep K186 (ninS ne221 nin0)
    have ne223 : w_Duration_ZERO ≠ b166 := Nat.ne_of_lt (Nat.lt_of_lt_of_le F_Duration_ZERO_seconds.lt (Nat.le_of_eq g166.symm))
    have F_Duration_ZERO_seconds_v222 := F_Duration_ZERO_seconds_v220.keep K205 (ninS ne223 nin0)
    have A166_v224 := A166_v190.keep K205
    have A167_v225 := A167_v191.keep K205
    have Fc186_v226 := Fc186.keep K205 (ninS (Ne.symm ne195) nin0)
    obtain ⟨cq227, kq227, q227a, q227b, q227c⟩ := isOf hZ186 rfl A166_v224
    obtain ⟨_, _, ⟨T227, L227, k227, n227⟩, -, X227, hs227, hg227, ⟨Lc227, hQ227, l227, y227, z227⟩, st227⟩ := X205.virtualBackS hx (y := (⟨"com/example/blend2/blend2/FixedWindow", "decide", "(J)Lcom/example/blend2/blend2/Decision;"⟩ : MethodName)) (z := (⟨"com/example/blend2/blend2/FixedWindow", "decide", "(J)Lcom/example/blend2/blend2/Decision;"⟩ : MethodName)) ho186 (mvT hZ186 (hw _ (List.mem_of_getElem? (i := 75) rfl))) (mvT hZ186 (hw _ (List.mem_of_getElem? (i := 76) rfl))) (notFace_of_selects (args := #[]) (mvT hZ186 (hw _ (List.mem_of_getElem? (i := 78) rfl)))) (mvT hZ186 (hw _ (List.mem_of_getElem? (i := 78) rfl))) (mvT hZ186 (hw _ (List.mem_of_getElem? (i := 77) rfl))) (by decide) (backOfS (W := 0) (rmdec l Z a0 hw [] b166 tp b167 w_Duration_ZERO ((sc.toInt64) * (1000 : Int64)) (0 : Int64) (0 : Int32) cp T205.heap n0 Z0_v206 S_Duration_ZERO_v211 E_Duration_ZERO_v216 F_Duration_ZERO_seconds_v222 A166_v224 A167_v225 Fc186_v226 Fr205 Fm205 Fs205 Fa205 (Ne.symm ne195) ne223 g_b166 hw1 hp1 hp2 hcp ⟨by decide, Int.le_trans (by decide) hcp.1⟩) hZ186 (hw _ (List.mem_of_getElem? (i := 79) rfl)) (hw _ (List.mem_of_getElem? (i := 10) rfl)) (by decide) (by decide)) q227a q227c (g := (mkF m 109 (LS_JsJsIIJsJsIJsIIIJsJsRu q0 q1 p2 p3 q4 t0 sc ((sc.toInt64) * (1000 : Int64)) cp nn (1 : Int32) tp qq b166) [(.long tp), (.ref b166)])) rfl (by rw [hml]; rfl) (Steps.refl _) (argsL := [(.long tp)]) (rest := []) (lenOf pd__J_Lcom_example_blend2_blend2_Decision_ rfl) rfl (by show 2 * 0 + _ ≤ _; exact Nat.le_of_eq rfl) (hb hby at_109) (fun _ _ => ⟨rfl, rfl, (by decide : 10 + 9 ≤ _), (by decide : 137 + 97 ≤ _)⟩)
    dsimp only [Pt.U, Pt.locs, Pt.cells, Pt.slots] at X227 l227 y227 z227 st227 hQ227 hs227 hg227
    subst l227 y227 z227
    have hk186_v228 := Nat.le_trans hk186 K205.1
    have hS227 : s.Since T227.vm T227.heap.size := foldS (s := s) (vm0 := T186.vm) (T := T205) (U := T227) hS186 hk186_v228 hs227 hg227
    have hZ227 : Z.Warmed39 (s.setVm T227.vm).vm := State.Warmed39.trans (t := s.setVm T186.vm) hZ186 hs227.1
    have ho227 : (s.setVm T227.vm).vm.findClass "com/example/blend2/blend2/FixedWindowIsIdleAtPinLaw" = some m.cls := by rw [show (s.setVm T227.vm).vm = T227.vm from rfl, hs227.1.alike.findClass]; exact ho186
    obtain ⟨o227, ad227, rfl, N227q, K227, Fr227, Fm227, Fs227, Fa227, hb227⟩ := hQ227
    have N227 := Fr.app N205 N227q
    have hk227 : T227.heap.size ≤ T227.heap.size := Nat.le_refl _
    refine own_go (B := T227.setTop (mkF m 112 (LS_JsJsIIJsJsIJsIIIJsJsRu q0 q1 p2 p3 q4 t0 sc ((sc.toInt64) * (1000 : Int64)) cp nn (1 : Int32) tp qq b166) [(.ref o227)])) (fun t k => st227.trans k) ?_
    refine own_go (B := T227.setTop (mkF m 113 (LS_JsJsIIJsJsIJsIIIJsJsRu q0 q1 p2 p3 q4 t0 sc ((sc.toInt64) * (1000 : Int64)) cp nn (1 : Int32) tp qq b166) [])) (fun t k => ?_) ?_
    · refine XS.pop X227.here hx rfl (hb hby at_112) rfl rfl ?_
      exact k
    rcases own_and3 ((p3.toUInt32 >>> ((1 : Int32) &&& 31).toUInt32).toInt32) with hk229 | hk229 | hk229 | hk229
    · have hnhk229 : nn = (0 : Int32) := by rw [e_nn]; exact hk229
      refine own_go (B := T227.setTop (mkF m 113 (LS_JsJsIIJsJsIJsIIIJsJsRu q0 q1 p2 p3 q4 t0 sc ((sc.toInt64) * (1000 : Int64)) cp (0 : Int32) (1 : Int32) tp qq b166) [])) (fun t k => by rw [hnhk229]; exact k) ?_
      refine own_go (B := T227.setTop (mkF m 193 (LS_JsJsIIJsJsIJsIIIJsJsRu q0 q1 p2 p3 q4 t0 sc ((sc.toInt64) * (1000 : Int64)) cp (0 : Int32) (1 : Int32) tp qq b166) [(.long ((sc.toInt64) * (1000 : Int64))), (.long tp), (.long qq)])) (fun t k => ?_) ?_
      · refine XS.iload X227.here hx rfl (hb hby at_113) rfl ?_
        refine XS.ifYes X227.here hx rfl (pc0 := 115) (pc' := 126) rfl (hb hby at_115) rfl ((if0 _ _).trans (flt (by decide : ¬ ((0 : Int32) < (0 : Int32)))).2.2.2) (by decide) (by decide) ?_
        show Steps p.tables e below (T227.setTop (mkF m 126 (LS_JsJsIIJsJsIJsIIIJsJsRu q0 q1 p2 p3 q4 t0 sc ((sc.toInt64) * (1000 : Int64)) cp (0 : Int32) (1 : Int32) tp qq b166) [])) _
        refine XS.iload X227.here hx rfl (hb hby at_126) rfl ?_
        refine XS.iconst X227.here hx rfl (hb hby at_128) ?_
        refine XS.icmpYes X227.here hx rfl (pc0 := 129) (pc' := 140) rfl (hb hby at_129) rfl (flt (by decide : ¬ ((1 : Int32) < (0 : Int32)))).2.2.2 (by decide) (by decide) ?_
        show Steps p.tables e below (T227.setTop (mkF m 140 (LS_JsJsIIJsJsIJsIIIJsJsRu q0 q1 p2 p3 q4 t0 sc ((sc.toInt64) * (1000 : Int64)) cp (0 : Int32) (1 : Int32) tp qq b166) [])) _
        refine XS.iload X227.here hx rfl (hb hby at_140) rfl ?_
        refine XS.iconst X227.here hx rfl (hb hby at_142) ?_
        refine XS.icmpYes X227.here hx rfl (pc0 := 143) (pc' := 154) rfl (hb hby at_143) rfl (flt (by decide : ¬ ((2 : Int32) < (0 : Int32)))).2.2.2 (by decide) (by decide) ?_
        show Steps p.tables e below (T227.setTop (mkF m 154 (LS_JsJsIIJsJsIJsIIIJsJsRu q0 q1 p2 p3 q4 t0 sc ((sc.toInt64) * (1000 : Int64)) cp (0 : Int32) (1 : Int32) tp qq b166) [])) _
        refine XS.iload X227.here hx rfl (hb hby at_154) rfl ?_
        refine XS.ifYes X227.here hx rfl (pc0 := 156) (pc' := 182) rfl (hb hby at_156) rfl ((if0 _ _).trans (flt (by decide : ¬ ((0 : Int32) < (0 : Int32)))).2.2.2) (by decide) (by decide) ?_
        refine XS.iload X227.here hx rfl (hb hby at_182) rfl ?_
        show Steps p.tables e below (T227.setTop (mkF m 184 (LS_JsJsIIJsJsIJsIIIJsJsRu q0 q1 p2 p3 q4 t0 sc ((sc.toInt64) * (1000 : Int64)) cp (0 : Int32) (1 : Int32) tp qq b166) [(.int (1 : Int32))])) _
        refine XS.ifNo X227.here hx rfl (hb hby at_184) rfl ((if0 _ _).trans (feq (by decide : ¬ ((1 : Int32) = (0 : Int32)))).1) ?_
        refine XS.lload X227.here hx rfl (hb hby at_187) rfl ?_
        refine XS.lload X227.here hx rfl (hb hby at_189) rfl ?_
        show Steps p.tables e below (T227.setTop (mkF m 191 (LS_JsJsIIJsJsIJsIIIJsJsRu q0 q1 p2 p3 q4 t0 sc ((sc.toInt64) * (1000 : Int64)) cp (0 : Int32) (1 : Int32) tp qq b166) [(.long tp), (.long qq)])) _
        refine XS.lload X227.here hx rfl (hb hby at_191) rfl ?_
        exact k
      have Z0_v230 := Nat.le_trans Z0_v206 K227.1
      obtain ⟨_, _, ⟨T231, L231, k231, n231⟩, -, X231, ⟨Lc231, hQ231, l231, y231, z231⟩, st231⟩ := Jvm.LawKit.callS X227 hx (y := (⟨"com/example/blend2/blend2/FixedWindowIsIdleAtPinLaw", "windowEnd", "(JJ)J"⟩ : MethodName)) ho227 (mvT hZ227 (hw _ (List.mem_of_getElem? (i := 146) rfl))) (mvT hZ227 (hw _ (List.mem_of_getElem? (i := 147) rfl))) (mvT hZ227 (hw _ (List.mem_of_getElem? (i := 148) rfl))) (mvT hZ227 (hw _ (List.mem_of_getElem? (i := 149) rfl))) (by decide) (backOf (W := 2) (rmwen l Z a0 hw [] tp ((sc.toInt64) * (1000 : Int64)) T227.heap n0 Z0_v230 (own_ne0 hw1)) hZ227 (hw _ (List.mem_of_getElem? (i := 149) rfl)) (hw _ (List.mem_of_getElem? (i := 148) rfl)) (by decide) (by decide)) (g := (mkF m 193 (LS_JsJsIIJsJsIJsIIIJsJsRu q0 q1 p2 p3 q4 t0 sc ((sc.toInt64) * (1000 : Int64)) cp (0 : Int32) (1 : Int32) tp qq b166) [(.long ((sc.toInt64) * (1000 : Int64))), (.long tp), (.long qq)])) rfl (by rw [hml]; rfl) (argsL := [(.long tp), (.long ((sc.toInt64) * (1000 : Int64)))]) (rest := [(.long qq)]) (lenOf pd__JJ_J rfl) rfl (by show 2 * 0 + _ ≤ _; exact Nat.le_of_eq rfl) (hb hby at_193) (fun _ _ => ⟨rfl, rfl, (by decide : 19 + 0 ≤ _), (by decide : 234 + 0 ≤ _)⟩)
      dsimp only [Pt.U, Pt.locs, Pt.cells, Pt.slots] at X231 l231 y231 z231 st231 hQ231
      subst l231 y231 z231
      obtain ⟨rfl, N231q, e231⟩ := hQ231
      have N231 := Fr.app N227 N231q
      refine own_go (B := T231.setTop (mkF m 196 (LS_JsJsIIJsJsIJsIIIJsJsRu q0 q1 p2 p3 q4 t0 sc ((sc.toInt64) * (1000 : Int64)) cp (0 : Int32) (1 : Int32) tp qq b166) [(.long (own_we tp ((sc.toInt64) * (1000 : Int64)))), (.long qq)])) (fun t k => st231 _ k) ?_
      refine own_go (B := T231.setTop (mkF m 197 (LS_JsJsIIJsJsIJsIIIJsJsRu q0 q1 p2 p3 q4 t0 sc ((sc.toInt64) * (1000 : Int64)) cp (0 : Int32) (1 : Int32) tp qq b166) [(.int (lcmpW qq (own_we tp ((sc.toInt64) * (1000 : Int64)))))])) (fun t k => ?_) ?_
      · refine XS.lcmp X231.here hx rfl (hb hby at_196) rfl ?_
        exact k
      by_cases hc197_232 : qq < (own_we tp ((sc.toInt64) * (1000 : Int64)))
      · refine own_go (B := T231.setTop (mkF m 217 (LS_JsJsIIJsJsIJsIIIJsJsRI q0 q1 p2 p3 q4 t0 sc ((sc.toInt64) * (1000 : Int64)) cp (0 : Int32) (1 : Int32) tp qq b166 (0 : Int32)) [(.long qq), (.ref b166)])) (fun t k => ?_) ?_
        · refine XS.ifYes X231.here hx rfl (pc0 := 197) (pc' := 204) rfl (hb hby at_197) rfl ((if0 _ _).trans (tlt ((lw_lt qq (own_we tp ((sc.toInt64) * (1000 : Int64)))).mpr hc197_232)).1) (by decide) (by decide) ?_
          refine XS.iconst X231.here hx rfl (hb hby at_204) ?_
          show Steps p.tables e below (T231.setTop (mkF m 205 (LS_JsJsIIJsJsIJsIIIJsJsRu q0 q1 p2 p3 q4 t0 sc ((sc.toInt64) * (1000 : Int64)) cp (0 : Int32) (1 : Int32) tp qq b166) [(.int (0 : Int32))])) _
          refine XS.istore X231.here hx rfl (hb hby at_205) rfl (l' := (LS_JsJsIIJsJsIJsIIIJsJsRI q0 q1 p2 p3 q4 t0 sc ((sc.toInt64) * (1000 : Int64)) cp (0 : Int32) (1 : Int32) tp qq b166 (0 : Int32))) rfl ?_
          refine XS.goto X231.here hx rfl (pc0 := 207) (pc' := 213) rfl (hb hby at_207) (by decide) (by decide) ?_
          refine XS.aload X231.here hx rfl (hb hby at_213) rfl rfl ?_
          show Steps p.tables e below (T231.setTop (mkF m 215 (LS_JsJsIIJsJsIJsIIIJsJsRI q0 q1 p2 p3 q4 t0 sc ((sc.toInt64) * (1000 : Int64)) cp (0 : Int32) (1 : Int32) tp qq b166 (0 : Int32)) [(.ref b166)])) _
          refine XS.lload X231.here hx rfl (hb hby at_215) rfl ?_
          exact k
        have A166_v234 := A166_v224.keep K227
        obtain ⟨cq233, kq233, q233a, q233b, q233c⟩ := isOf hZ227 e231 A166_v234
        obtain ⟨_, _, ⟨T233, L233, k233, n233⟩, -, X233, ⟨Lc233, hQ233, l233, y233, z233⟩, st233⟩ := X231.virtualBack hx (y := (⟨"com/example/blend2/blend2/FixedWindow", "isIdleAt", "(J)Z"⟩ : MethodName)) (z := (⟨"com/example/blend2/blend2/FixedWindow", "isIdleAt", "(J)Z"⟩ : MethodName)) ho227 (mvT hZ227 (hw _ (List.mem_of_getElem? (i := 150) rfl))) (mvT hZ227 (hw _ (List.mem_of_getElem? (i := 151) rfl))) (notFace_of_selects (args := #[]) (mvT hZ227 (hw _ (List.mem_of_getElem? (i := 153) rfl)))) (mvT hZ227 (hw _ (List.mem_of_getElem? (i := 153) rfl))) (mvT hZ227 (hw _ (List.mem_of_getElem? (i := 152) rfl))) (by decide) (backOf (W := 0) (rmidl l Z a0 hw [] b166 qq ((sc.toInt64) * (1000 : Int64)) ((own_fd tp ((sc.toInt64) * (1000 : Int64))) * ((sc.toInt64) * (1000 : Int64))) ad227 T227.heap n0 Z0_v230 Fa227 Fs227 Fm227) hZ227 (hw _ (List.mem_of_getElem? (i := 154) rfl)) (hw _ (List.mem_of_getElem? (i := 10) rfl)) (by decide) (by decide)) q233a q233c (g := (mkF m 217 (LS_JsJsIIJsJsIJsIIIJsJsRI q0 q1 p2 p3 q4 t0 sc ((sc.toInt64) * (1000 : Int64)) cp (0 : Int32) (1 : Int32) tp qq b166 (0 : Int32)) [(.long qq), (.ref b166)])) rfl (by rw [hml]; rfl) (Steps.refl _) (argsL := [(.long qq)]) (rest := []) (lenOf pd__J_Z rfl) rfl (by show 2 * 0 + _ ≤ _; exact Nat.le_of_eq rfl) (hb hby at_217) (fun _ _ => ⟨rfl, e231, (by decide : 19 + 0 ≤ _), (by decide : 234 + 0 ≤ _)⟩)
        dsimp only [Pt.U, Pt.locs, Pt.cells, Pt.slots] at X233 l233 y233 z233 st233 hQ233
        subst l233 y233 z233
        obtain ⟨rfl, N233q, e233⟩ := hQ233
        have N233 := Fr.app N231 N233q
        refine own_go (B := T233.setTop (mkF m 220 (LS_JsJsIIJsJsIJsIIIJsJsRI q0 q1 p2 p3 q4 t0 sc ((sc.toInt64) * (1000 : Int64)) cp (0 : Int32) (1 : Int32) tp qq b166 (0 : Int32)) [(.int (if ad227 = (0 : Int32) then (1 : Int32) else if qq < (((own_fd tp ((sc.toInt64) * (1000 : Int64))) * ((sc.toInt64) * (1000 : Int64))) + ((sc.toInt64) * (1000 : Int64))) then (0 : Int32) else (1 : Int32)))])) (fun t k => st233.trans k) ?_
        refine own_go (B := T233.setTop (mkF m 230 (LS_JsJsIIJsJsIJsIIIJsJsRI q0 q1 p2 p3 q4 t0 sc ((sc.toInt64) * (1000 : Int64)) cp (0 : Int32) (1 : Int32) tp qq b166 (0 : Int32)) [(.int (1 : Int32))])) (fun t k => ?_) ?_
        · refine XS.iload X233.here hx rfl (hb hby at_220) rfl ?_
          refine XS.icmpNo X233.here hx rfl (hb hby at_222) rfl (teq (own_fin (own_n0 hb227) (own_same hw1 hp1 hp2) hc197_232)).2 ?_
          show Steps p.tables e below (T233.setTop (mkF m 225 (LS_JsJsIIJsJsIJsIIIJsJsRI q0 q1 p2 p3 q4 t0 sc ((sc.toInt64) * (1000 : Int64)) cp (0 : Int32) (1 : Int32) tp qq b166 (0 : Int32)) [])) _
          refine XS.iconst X233.here hx rfl (hb hby at_225) ?_
          refine XS.goto X233.here hx rfl (pc0 := 226) (pc' := 230) rfl (hb hby at_226) (by decide) (by decide) ?_
          exact k
        obtain ⟨fs, hr, hrun, hended, hRW⟩ := Stand.leaveW (s := s) (vm₁ := T227.vm) X233 hS227 (by rw [e233]; exact hk227) (v := some (.int (1 : Int32))) (fun h => by rw [Bd.returns] at h; cases h)
        refine ⟨_, _, ?_, hrun, hended, _, _, rfl, ?_, hRW.1, hRW.2.1, hRW.2.2.1, hRW.2.2.2.mono (by decide) (by decide)⟩
        · show Steps p.tables e below (T233.setTop (mkF m 230 (LS_JsJsIIJsJsIJsIIIJsJsRI q0 q1 p2 p3 q4 t0 sc ((sc.toInt64) * (1000 : Int64)) cp (0 : Int32) (1 : Int32) tp qq b166 (0 : Int32)) [(.int (1 : Int32))])) _
          exact retN X233 hx (t := .boolean) Bd.returns (by simp) (hb hby at_230) hr
        · show Q0 Z q0 q1 p2 p3 q4 w_Algorithm_SLIDING_WINDOW_LOG w_StoreFailurePolicy_OPEN w_Duration_ZERO h0 n0 _ T233.heap _
          rw [e233]
          exact ⟨rfl, N233⟩
      · refine own_go (B := T231.setTop (mkF m 217 (LS_JsJsIIJsJsIJsIIIJsJsRI q0 q1 p2 p3 q4 t0 sc ((sc.toInt64) * (1000 : Int64)) cp (0 : Int32) (1 : Int32) tp qq b166 (1 : Int32)) [(.long qq), (.ref b166)])) (fun t k => ?_) ?_
        · refine XS.ifNo X231.here hx rfl (hb hby at_197) rfl ((if0 _ _).trans (flt (fun q => hc197_232 ((lw_lt qq (own_we tp ((sc.toInt64) * (1000 : Int64)))).mp q))).1) ?_
          refine XS.iconst X231.here hx rfl (hb hby at_200) ?_
          show Steps p.tables e below (T231.setTop (mkF m 201 (LS_JsJsIIJsJsIJsIIIJsJsRu q0 q1 p2 p3 q4 t0 sc ((sc.toInt64) * (1000 : Int64)) cp (0 : Int32) (1 : Int32) tp qq b166) [(.int (1 : Int32))])) _
          refine XS.goto X231.here hx rfl (pc0 := 201) (pc' := 205) rfl (hb hby at_201) (by decide) (by decide) ?_
          refine XS.istore X231.here hx rfl (hb hby at_205) rfl (l' := (LS_JsJsIIJsJsIJsIIIJsJsRI q0 q1 p2 p3 q4 t0 sc ((sc.toInt64) * (1000 : Int64)) cp (0 : Int32) (1 : Int32) tp qq b166 (1 : Int32))) rfl ?_
          refine XS.goto X231.here hx rfl (pc0 := 207) (pc' := 213) rfl (hb hby at_207) (by decide) (by decide) ?_
          show Steps p.tables e below (T231.setTop (mkF m 213 (LS_JsJsIIJsJsIJsIIIJsJsRI q0 q1 p2 p3 q4 t0 sc ((sc.toInt64) * (1000 : Int64)) cp (0 : Int32) (1 : Int32) tp qq b166 (1 : Int32)) [])) _
          refine XS.aload X231.here hx rfl (hb hby at_213) rfl rfl ?_
          refine XS.lload X231.here hx rfl (hb hby at_215) rfl ?_
          exact k
        have A166_v236 := A166_v224.keep K227
        obtain ⟨cq235, kq235, q235a, q235b, q235c⟩ := isOf hZ227 e231 A166_v236
        obtain ⟨_, _, ⟨T235, L235, k235, n235⟩, -, X235, ⟨Lc235, hQ235, l235, y235, z235⟩, st235⟩ := X231.virtualBack hx (y := (⟨"com/example/blend2/blend2/FixedWindow", "isIdleAt", "(J)Z"⟩ : MethodName)) (z := (⟨"com/example/blend2/blend2/FixedWindow", "isIdleAt", "(J)Z"⟩ : MethodName)) ho227 (mvT hZ227 (hw _ (List.mem_of_getElem? (i := 150) rfl))) (mvT hZ227 (hw _ (List.mem_of_getElem? (i := 151) rfl))) (notFace_of_selects (args := #[]) (mvT hZ227 (hw _ (List.mem_of_getElem? (i := 153) rfl)))) (mvT hZ227 (hw _ (List.mem_of_getElem? (i := 153) rfl))) (mvT hZ227 (hw _ (List.mem_of_getElem? (i := 152) rfl))) (by decide) (backOf (W := 0) (rmidl l Z a0 hw [] b166 qq ((sc.toInt64) * (1000 : Int64)) ((own_fd tp ((sc.toInt64) * (1000 : Int64))) * ((sc.toInt64) * (1000 : Int64))) ad227 T227.heap n0 Z0_v230 Fa227 Fs227 Fm227) hZ227 (hw _ (List.mem_of_getElem? (i := 154) rfl)) (hw _ (List.mem_of_getElem? (i := 10) rfl)) (by decide) (by decide)) q235a q235c (g := (mkF m 217 (LS_JsJsIIJsJsIJsIIIJsJsRI q0 q1 p2 p3 q4 t0 sc ((sc.toInt64) * (1000 : Int64)) cp (0 : Int32) (1 : Int32) tp qq b166 (1 : Int32)) [(.long qq), (.ref b166)])) rfl (by rw [hml]; rfl) (Steps.refl _) (argsL := [(.long qq)]) (rest := []) (lenOf pd__J_Z rfl) rfl (by show 2 * 0 + _ ≤ _; exact Nat.le_of_eq rfl) (hb hby at_217) (fun _ _ => ⟨rfl, e231, (by decide : 19 + 0 ≤ _), (by decide : 234 + 0 ≤ _)⟩)
        dsimp only [Pt.U, Pt.locs, Pt.cells, Pt.slots] at X235 l235 y235 z235 st235 hQ235
        subst l235 y235 z235
        obtain ⟨rfl, N235q, e235⟩ := hQ235
        have N235 := Fr.app N231 N235q
        refine own_go (B := T235.setTop (mkF m 220 (LS_JsJsIIJsJsIJsIIIJsJsRI q0 q1 p2 p3 q4 t0 sc ((sc.toInt64) * (1000 : Int64)) cp (0 : Int32) (1 : Int32) tp qq b166 (1 : Int32)) [(.int (if ad227 = (0 : Int32) then (1 : Int32) else if qq < (((own_fd tp ((sc.toInt64) * (1000 : Int64))) * ((sc.toInt64) * (1000 : Int64))) + ((sc.toInt64) * (1000 : Int64))) then (0 : Int32) else (1 : Int32)))])) (fun t k => st235.trans k) ?_
        refine own_go (B := T235.setTop (mkF m 230 (LS_JsJsIIJsJsIJsIIIJsJsRI q0 q1 p2 p3 q4 t0 sc ((sc.toInt64) * (1000 : Int64)) cp (0 : Int32) (1 : Int32) tp qq b166 (1 : Int32)) [(.int (1 : Int32))])) (fun t k => ?_) ?_
        · refine XS.iload X235.here hx rfl (hb hby at_220) rfl ?_
          refine XS.icmpNo X235.here hx rfl (hb hby at_222) rfl (teq (own_fin2 (own_n0 hb227) (own_same hw1 hp1 hp2) hc197_232)).2 ?_
          show Steps p.tables e below (T235.setTop (mkF m 225 (LS_JsJsIIJsJsIJsIIIJsJsRI q0 q1 p2 p3 q4 t0 sc ((sc.toInt64) * (1000 : Int64)) cp (0 : Int32) (1 : Int32) tp qq b166 (1 : Int32)) [])) _
          refine XS.iconst X235.here hx rfl (hb hby at_225) ?_
          refine XS.goto X235.here hx rfl (pc0 := 226) (pc' := 230) rfl (hb hby at_226) (by decide) (by decide) ?_
          exact k
        obtain ⟨fs, hr, hrun, hended, hRW⟩ := Stand.leaveW (s := s) (vm₁ := T227.vm) X235 hS227 (by rw [e235]; exact hk227) (v := some (.int (1 : Int32))) (fun h => by rw [Bd.returns] at h; cases h)
        refine ⟨_, _, ?_, hrun, hended, _, _, rfl, ?_, hRW.1, hRW.2.1, hRW.2.2.1, hRW.2.2.2.mono (by decide) (by decide)⟩
        · show Steps p.tables e below (T235.setTop (mkF m 230 (LS_JsJsIIJsJsIJsIIIJsJsRI q0 q1 p2 p3 q4 t0 sc ((sc.toInt64) * (1000 : Int64)) cp (0 : Int32) (1 : Int32) tp qq b166 (1 : Int32)) [(.int (1 : Int32))])) _
          exact retN X235 hx (t := .boolean) Bd.returns (by simp) (hb hby at_230) hr
        · show Q0 Z q0 q1 p2 p3 q4 w_Algorithm_SLIDING_WINDOW_LOG w_StoreFailurePolicy_OPEN w_Duration_ZERO h0 n0 _ T235.heap _
          rw [e235]
          exact ⟨rfl, N235⟩
    · have hnhk229 : nn = (1 : Int32) := by rw [e_nn]; exact hk229
      refine own_go (B := T227.setTop (mkF m 113 (LS_JsJsIIJsJsIJsIIIJsJsRu q0 q1 p2 p3 q4 t0 sc ((sc.toInt64) * (1000 : Int64)) cp (1 : Int32) (1 : Int32) tp qq b166) [])) (fun t k => by rw [hnhk229]; exact k) ?_
      refine own_go (B := T227.setTop (mkF m 122 (LS_JsJsIIJsJsIJsIIIJsJsRu q0 q1 p2 p3 q4 t0 sc ((sc.toInt64) * (1000 : Int64)) cp (1 : Int32) (1 : Int32) tp qq b166) [(.long t0), (.ref b166)])) (fun t k => ?_) ?_
      · refine XS.iload X227.here hx rfl (hb hby at_113) rfl ?_
        refine XS.ifNo X227.here hx rfl (hb hby at_115) rfl ((if0 _ _).trans (tlt (by decide : (0 : Int32) < (1 : Int32))).2.2.2) ?_
        show Steps p.tables e below (T227.setTop (mkF m 118 (LS_JsJsIIJsJsIJsIIIJsJsRu q0 q1 p2 p3 q4 t0 sc ((sc.toInt64) * (1000 : Int64)) cp (1 : Int32) (1 : Int32) tp qq b166) [])) _
        refine XS.aload X227.here hx rfl (hb hby at_118) rfl rfl ?_
        refine XS.lload X227.here hx rfl (hb hby at_120) rfl ?_
        exact k
      have Z0_v237 := Nat.le_trans Z0_v206 K227.1
      have S_Duration_ZERO_v238 := own_sta_keep S_Duration_ZERO_v211 K227 (allS (own_plain_E A166_v224) all0)
      have E_Duration_ZERO_v239 := E_Duration_ZERO_v216.keep K227
      have F_Duration_ZERO_seconds_v240 := F_Duration_ZERO_seconds_v219.keep K186 (ninS ne221 nin0)
      have F_Duration_ZERO_seconds_v241 := F_Duration_ZERO_seconds_v240.keep K205 (ninS ne223 nin0)
      have F_Duration_ZERO_seconds_v242 := F_Duration_ZERO_seconds_v241.keep K227 (ninS ne223 nin0)
      have A166_v243 := A166_v224.keep K227
      have A167_v244 := A167_v225.keep K227
      have Fc186_v245 := Fc186_v226.keep K227 (ninS (Ne.symm ne195) nin0)
      obtain ⟨cq246, kq246, q246a, q246b, q246c⟩ := isOf hZ227 rfl A166_v243
      obtain ⟨_, _, ⟨T246, L246, k246, n246⟩, -, X246, hs246, hg246, ⟨Lc246, hQ246, l246, y246, z246⟩, st246⟩ := X227.virtualBackS hx (y := (⟨"com/example/blend2/blend2/FixedWindow", "decide", "(J)Lcom/example/blend2/blend2/Decision;"⟩ : MethodName)) (z := (⟨"com/example/blend2/blend2/FixedWindow", "decide", "(J)Lcom/example/blend2/blend2/Decision;"⟩ : MethodName)) ho227 (mvT hZ227 (hw _ (List.mem_of_getElem? (i := 75) rfl))) (mvT hZ227 (hw _ (List.mem_of_getElem? (i := 76) rfl))) (notFace_of_selects (args := #[]) (mvT hZ227 (hw _ (List.mem_of_getElem? (i := 78) rfl)))) (mvT hZ227 (hw _ (List.mem_of_getElem? (i := 78) rfl))) (mvT hZ227 (hw _ (List.mem_of_getElem? (i := 77) rfl))) (by decide) (backOfS (W := 0) (rmdec l Z a0 hw [] b166 t0 b167 w_Duration_ZERO ((sc.toInt64) * (1000 : Int64)) ((own_fd tp ((sc.toInt64) * (1000 : Int64))) * ((sc.toInt64) * (1000 : Int64))) ad227 cp T227.heap n0 Z0_v237 S_Duration_ZERO_v238 E_Duration_ZERO_v239 F_Duration_ZERO_seconds_v242 A166_v243 A167_v244 Fc186_v245 Fr227 Fm227 Fs227 Fa227 (Ne.symm ne195) ne223 g_b166 hw1 ht1 ht2 hcp ⟨(by have := hb227.1; omega), hb227.2⟩) hZ227 (hw _ (List.mem_of_getElem? (i := 79) rfl)) (hw _ (List.mem_of_getElem? (i := 10) rfl)) (by decide) (by decide)) q246a q246c (g := (mkF m 122 (LS_JsJsIIJsJsIJsIIIJsJsRu q0 q1 p2 p3 q4 t0 sc ((sc.toInt64) * (1000 : Int64)) cp (1 : Int32) (1 : Int32) tp qq b166) [(.long t0), (.ref b166)])) rfl (by rw [hml]; rfl) (Steps.refl _) (argsL := [(.long t0)]) (rest := []) (lenOf pd__J_Lcom_example_blend2_blend2_Decision_ rfl) rfl (by show 2 * 0 + _ ≤ _; exact Nat.le_of_eq rfl) (hb hby at_122) (fun _ _ => ⟨rfl, rfl, (by decide : 19 + 9 ≤ _), (by decide : 234 + 97 ≤ _)⟩)
      dsimp only [Pt.U, Pt.locs, Pt.cells, Pt.slots] at X246 l246 y246 z246 st246 hQ246 hs246 hg246
      subst l246 y246 z246
      have hS246 : s.Since T246.vm T246.heap.size := foldS (s := s) (vm0 := T227.vm) (T := T227) (U := T246) hS227 hk227 hs246 hg246
      have hZ246 : Z.Warmed39 (s.setVm T246.vm).vm := State.Warmed39.trans (t := s.setVm T227.vm) hZ227 hs246.1
      have ho246 : (s.setVm T246.vm).vm.findClass "com/example/blend2/blend2/FixedWindowIsIdleAtPinLaw" = some m.cls := by rw [show (s.setVm T246.vm).vm = T246.vm from rfl, hs246.1.alike.findClass]; exact ho227
      obtain ⟨o246, ad246, rfl, N246q, K246, Fr246, Fm246, Fs246, Fa246, hb246⟩ := hQ246
      have N246 := Fr.app N227 N246q
      have hk246 : T246.heap.size ≤ T246.heap.size := Nat.le_refl _
      refine own_go (B := T246.setTop (mkF m 125 (LS_JsJsIIJsJsIJsIIIJsJsRu q0 q1 p2 p3 q4 t0 sc ((sc.toInt64) * (1000 : Int64)) cp (1 : Int32) (1 : Int32) tp qq b166) [(.ref o246)])) (fun t k => st246.trans k) ?_
      refine own_go (B := T246.setTop (mkF m 165 (LS_JsJsIIJsJsIJsIIIJsJsRu q0 q1 p2 p3 q4 t0 sc ((sc.toInt64) * (1000 : Int64)) cp (1 : Int32) (1 : Int32) tp qq b166) [(.long ((sc.toInt64) * (1000 : Int64))), (.long t0), (.long qq)])) (fun t k => ?_) ?_
      · refine XS.pop X246.here hx rfl (hb hby at_125) rfl rfl ?_
        refine XS.iload X246.here hx rfl (hb hby at_126) rfl ?_
        show Steps p.tables e below (T246.setTop (mkF m 128 (LS_JsJsIIJsJsIJsIIIJsJsRu q0 q1 p2 p3 q4 t0 sc ((sc.toInt64) * (1000 : Int64)) cp (1 : Int32) (1 : Int32) tp qq b166) [(.int (1 : Int32))])) _
        refine XS.iconst X246.here hx rfl (hb hby at_128) ?_
        refine XS.icmpYes X246.here hx rfl (pc0 := 129) (pc' := 140) rfl (hb hby at_129) rfl (flt (by decide : ¬ ((1 : Int32) < (1 : Int32)))).2.2.2 (by decide) (by decide) ?_
        refine XS.iload X246.here hx rfl (hb hby at_140) rfl ?_
        show Steps p.tables e below (T246.setTop (mkF m 142 (LS_JsJsIIJsJsIJsIIIJsJsRu q0 q1 p2 p3 q4 t0 sc ((sc.toInt64) * (1000 : Int64)) cp (1 : Int32) (1 : Int32) tp qq b166) [(.int (1 : Int32))])) _
        refine XS.iconst X246.here hx rfl (hb hby at_142) ?_
        refine XS.icmpYes X246.here hx rfl (pc0 := 143) (pc' := 154) rfl (hb hby at_143) rfl (flt (by decide : ¬ ((2 : Int32) < (1 : Int32)))).2.2.2 (by decide) (by decide) ?_
        refine XS.iload X246.here hx rfl (hb hby at_154) rfl ?_
        show Steps p.tables e below (T246.setTop (mkF m 156 (LS_JsJsIIJsJsIJsIIIJsJsRu q0 q1 p2 p3 q4 t0 sc ((sc.toInt64) * (1000 : Int64)) cp (1 : Int32) (1 : Int32) tp qq b166) [(.int (1 : Int32))])) _
        refine XS.ifNo X246.here hx rfl (hb hby at_156) rfl ((if0 _ _).trans (tlt (by decide : (0 : Int32) < (1 : Int32))).2.2.2) ?_
        refine XS.lload X246.here hx rfl (hb hby at_159) rfl ?_
        refine XS.lload X246.here hx rfl (hb hby at_161) rfl ?_
        show Steps p.tables e below (T246.setTop (mkF m 163 (LS_JsJsIIJsJsIJsIIIJsJsRu q0 q1 p2 p3 q4 t0 sc ((sc.toInt64) * (1000 : Int64)) cp (1 : Int32) (1 : Int32) tp qq b166) [(.long t0), (.long qq)])) _
        refine XS.lload X246.here hx rfl (hb hby at_163) rfl ?_
        exact k
      have Z0_v247 := Nat.le_trans Z0_v237 K246.1
      obtain ⟨_, _, ⟨T248, L248, k248, n248⟩, -, X248, ⟨Lc248, hQ248, l248, y248, z248⟩, st248⟩ := Jvm.LawKit.callS X246 hx (y := (⟨"com/example/blend2/blend2/FixedWindowIsIdleAtPinLaw", "windowEnd", "(JJ)J"⟩ : MethodName)) ho246 (mvT hZ246 (hw _ (List.mem_of_getElem? (i := 146) rfl))) (mvT hZ246 (hw _ (List.mem_of_getElem? (i := 147) rfl))) (mvT hZ246 (hw _ (List.mem_of_getElem? (i := 148) rfl))) (mvT hZ246 (hw _ (List.mem_of_getElem? (i := 149) rfl))) (by decide) (backOf (W := 2) (rmwen l Z a0 hw [] t0 ((sc.toInt64) * (1000 : Int64)) T246.heap n0 Z0_v247 (own_ne0 hw1)) hZ246 (hw _ (List.mem_of_getElem? (i := 149) rfl)) (hw _ (List.mem_of_getElem? (i := 148) rfl)) (by decide) (by decide)) (g := (mkF m 165 (LS_JsJsIIJsJsIJsIIIJsJsRu q0 q1 p2 p3 q4 t0 sc ((sc.toInt64) * (1000 : Int64)) cp (1 : Int32) (1 : Int32) tp qq b166) [(.long ((sc.toInt64) * (1000 : Int64))), (.long t0), (.long qq)])) rfl (by rw [hml]; rfl) (argsL := [(.long t0), (.long ((sc.toInt64) * (1000 : Int64)))]) (rest := [(.long qq)]) (lenOf pd__JJ_J rfl) rfl (by show 2 * 0 + _ ≤ _; exact Nat.le_of_eq rfl) (hb hby at_165) (fun _ _ => ⟨rfl, rfl, (by decide : 28 + 0 ≤ _), (by decide : 331 + 0 ≤ _)⟩)
      dsimp only [Pt.U, Pt.locs, Pt.cells, Pt.slots] at X248 l248 y248 z248 st248 hQ248
      subst l248 y248 z248
      obtain ⟨rfl, N248q, e248⟩ := hQ248
      have N248 := Fr.app N246 N248q
      refine own_go (B := T248.setTop (mkF m 168 (LS_JsJsIIJsJsIJsIIIJsJsRu q0 q1 p2 p3 q4 t0 sc ((sc.toInt64) * (1000 : Int64)) cp (1 : Int32) (1 : Int32) tp qq b166) [(.long (own_we t0 ((sc.toInt64) * (1000 : Int64)))), (.long qq)])) (fun t k => st248 _ k) ?_
      refine own_go (B := T248.setTop (mkF m 169 (LS_JsJsIIJsJsIJsIIIJsJsRu q0 q1 p2 p3 q4 t0 sc ((sc.toInt64) * (1000 : Int64)) cp (1 : Int32) (1 : Int32) tp qq b166) [(.int (lcmpW qq (own_we t0 ((sc.toInt64) * (1000 : Int64)))))])) (fun t k => ?_) ?_
      · refine XS.lcmp X248.here hx rfl (hb hby at_168) rfl ?_
        exact k
      by_cases hc169_249 : qq < (own_we t0 ((sc.toInt64) * (1000 : Int64)))
      · refine own_go (B := T248.setTop (mkF m 217 (LS_JsJsIIJsJsIJsIIIJsJsRI q0 q1 p2 p3 q4 t0 sc ((sc.toInt64) * (1000 : Int64)) cp (1 : Int32) (1 : Int32) tp qq b166 (0 : Int32)) [(.long qq), (.ref b166)])) (fun t k => ?_) ?_
        · refine XS.ifYes X248.here hx rfl (pc0 := 169) (pc' := 176) rfl (hb hby at_169) rfl ((if0 _ _).trans (tlt ((lw_lt qq (own_we t0 ((sc.toInt64) * (1000 : Int64)))).mpr hc169_249)).1) (by decide) (by decide) ?_
          refine XS.iconst X248.here hx rfl (hb hby at_176) ?_
          show Steps p.tables e below (T248.setTop (mkF m 177 (LS_JsJsIIJsJsIJsIIIJsJsRu q0 q1 p2 p3 q4 t0 sc ((sc.toInt64) * (1000 : Int64)) cp (1 : Int32) (1 : Int32) tp qq b166) [(.int (0 : Int32))])) _
          refine XS.istore X248.here hx rfl (hb hby at_177) rfl (l' := (LS_JsJsIIJsJsIJsIIIJsJsRI q0 q1 p2 p3 q4 t0 sc ((sc.toInt64) * (1000 : Int64)) cp (1 : Int32) (1 : Int32) tp qq b166 (0 : Int32))) rfl ?_
          refine XS.goto X248.here hx rfl (pc0 := 179) (pc' := 213) rfl (hb hby at_179) (by decide) (by decide) ?_
          refine XS.aload X248.here hx rfl (hb hby at_213) rfl rfl ?_
          show Steps p.tables e below (T248.setTop (mkF m 215 (LS_JsJsIIJsJsIJsIIIJsJsRI q0 q1 p2 p3 q4 t0 sc ((sc.toInt64) * (1000 : Int64)) cp (1 : Int32) (1 : Int32) tp qq b166 (0 : Int32)) [(.ref b166)])) _
          refine XS.lload X248.here hx rfl (hb hby at_215) rfl ?_
          exact k
        have A166_v251 := A166_v243.keep K246
        obtain ⟨cq250, kq250, q250a, q250b, q250c⟩ := isOf hZ246 e248 A166_v251
        obtain ⟨_, _, ⟨T250, L250, k250, n250⟩, -, X250, ⟨Lc250, hQ250, l250, y250, z250⟩, st250⟩ := X248.virtualBack hx (y := (⟨"com/example/blend2/blend2/FixedWindow", "isIdleAt", "(J)Z"⟩ : MethodName)) (z := (⟨"com/example/blend2/blend2/FixedWindow", "isIdleAt", "(J)Z"⟩ : MethodName)) ho246 (mvT hZ246 (hw _ (List.mem_of_getElem? (i := 150) rfl))) (mvT hZ246 (hw _ (List.mem_of_getElem? (i := 151) rfl))) (notFace_of_selects (args := #[]) (mvT hZ246 (hw _ (List.mem_of_getElem? (i := 153) rfl)))) (mvT hZ246 (hw _ (List.mem_of_getElem? (i := 153) rfl))) (mvT hZ246 (hw _ (List.mem_of_getElem? (i := 152) rfl))) (by decide) (backOf (W := 0) (rmidl l Z a0 hw [] b166 qq ((sc.toInt64) * (1000 : Int64)) ((own_fd t0 ((sc.toInt64) * (1000 : Int64))) * ((sc.toInt64) * (1000 : Int64))) ad246 T246.heap n0 Z0_v247 Fa246 Fs246 Fm246) hZ246 (hw _ (List.mem_of_getElem? (i := 154) rfl)) (hw _ (List.mem_of_getElem? (i := 10) rfl)) (by decide) (by decide)) q250a q250c (g := (mkF m 217 (LS_JsJsIIJsJsIJsIIIJsJsRI q0 q1 p2 p3 q4 t0 sc ((sc.toInt64) * (1000 : Int64)) cp (1 : Int32) (1 : Int32) tp qq b166 (0 : Int32)) [(.long qq), (.ref b166)])) rfl (by rw [hml]; rfl) (Steps.refl _) (argsL := [(.long qq)]) (rest := []) (lenOf pd__J_Z rfl) rfl (by show 2 * 0 + _ ≤ _; exact Nat.le_of_eq rfl) (hb hby at_217) (fun _ _ => ⟨rfl, e248, (by decide : 28 + 0 ≤ _), (by decide : 331 + 0 ≤ _)⟩)
        dsimp only [Pt.U, Pt.locs, Pt.cells, Pt.slots] at X250 l250 y250 z250 st250 hQ250
        subst l250 y250 z250
        obtain ⟨rfl, N250q, e250⟩ := hQ250
        have N250 := Fr.app N248 N250q
        refine own_go (B := T250.setTop (mkF m 220 (LS_JsJsIIJsJsIJsIIIJsJsRI q0 q1 p2 p3 q4 t0 sc ((sc.toInt64) * (1000 : Int64)) cp (1 : Int32) (1 : Int32) tp qq b166 (0 : Int32)) [(.int (if ad246 = (0 : Int32) then (1 : Int32) else if qq < (((own_fd t0 ((sc.toInt64) * (1000 : Int64))) * ((sc.toInt64) * (1000 : Int64))) + ((sc.toInt64) * (1000 : Int64))) then (0 : Int32) else (1 : Int32)))])) (fun t k => st250.trans k) ?_
        refine own_go (B := T250.setTop (mkF m 230 (LS_JsJsIIJsJsIJsIIIJsJsRI q0 q1 p2 p3 q4 t0 sc ((sc.toInt64) * (1000 : Int64)) cp (1 : Int32) (1 : Int32) tp qq b166 (0 : Int32)) [(.int (1 : Int32))])) (fun t k => ?_) ?_
        · refine XS.iload X250.here hx rfl (hb hby at_220) rfl ?_
          refine XS.icmpNo X250.here hx rfl (hb hby at_222) rfl (teq (own_fin (own_n0 hb246) (own_same hw1 ht1 ht2) hc169_249)).2 ?_
          show Steps p.tables e below (T250.setTop (mkF m 225 (LS_JsJsIIJsJsIJsIIIJsJsRI q0 q1 p2 p3 q4 t0 sc ((sc.toInt64) * (1000 : Int64)) cp (1 : Int32) (1 : Int32) tp qq b166 (0 : Int32)) [])) _
          refine XS.iconst X250.here hx rfl (hb hby at_225) ?_
          refine XS.goto X250.here hx rfl (pc0 := 226) (pc' := 230) rfl (hb hby at_226) (by decide) (by decide) ?_
          exact k
        obtain ⟨fs, hr, hrun, hended, hRW⟩ := Stand.leaveW (s := s) (vm₁ := T246.vm) X250 hS246 (by rw [e250]; exact hk246) (v := some (.int (1 : Int32))) (fun h => by rw [Bd.returns] at h; cases h)
        refine ⟨_, _, ?_, hrun, hended, _, _, rfl, ?_, hRW.1, hRW.2.1, hRW.2.2.1, hRW.2.2.2.mono (by decide) (by decide)⟩
        · show Steps p.tables e below (T250.setTop (mkF m 230 (LS_JsJsIIJsJsIJsIIIJsJsRI q0 q1 p2 p3 q4 t0 sc ((sc.toInt64) * (1000 : Int64)) cp (1 : Int32) (1 : Int32) tp qq b166 (0 : Int32)) [(.int (1 : Int32))])) _
          exact retN X250 hx (t := .boolean) Bd.returns (by simp) (hb hby at_230) hr
        · show Q0 Z q0 q1 p2 p3 q4 w_Algorithm_SLIDING_WINDOW_LOG w_StoreFailurePolicy_OPEN w_Duration_ZERO h0 n0 _ T250.heap _
          rw [e250]
          exact ⟨rfl, N250⟩
      · refine own_go (B := T248.setTop (mkF m 217 (LS_JsJsIIJsJsIJsIIIJsJsRI q0 q1 p2 p3 q4 t0 sc ((sc.toInt64) * (1000 : Int64)) cp (1 : Int32) (1 : Int32) tp qq b166 (1 : Int32)) [(.long qq), (.ref b166)])) (fun t k => ?_) ?_
        · refine XS.ifNo X248.here hx rfl (hb hby at_169) rfl ((if0 _ _).trans (flt (fun q => hc169_249 ((lw_lt qq (own_we t0 ((sc.toInt64) * (1000 : Int64)))).mp q))).1) ?_
          refine XS.iconst X248.here hx rfl (hb hby at_172) ?_
          show Steps p.tables e below (T248.setTop (mkF m 173 (LS_JsJsIIJsJsIJsIIIJsJsRu q0 q1 p2 p3 q4 t0 sc ((sc.toInt64) * (1000 : Int64)) cp (1 : Int32) (1 : Int32) tp qq b166) [(.int (1 : Int32))])) _
          refine XS.goto X248.here hx rfl (pc0 := 173) (pc' := 177) rfl (hb hby at_173) (by decide) (by decide) ?_
          refine XS.istore X248.here hx rfl (hb hby at_177) rfl (l' := (LS_JsJsIIJsJsIJsIIIJsJsRI q0 q1 p2 p3 q4 t0 sc ((sc.toInt64) * (1000 : Int64)) cp (1 : Int32) (1 : Int32) tp qq b166 (1 : Int32))) rfl ?_
          refine XS.goto X248.here hx rfl (pc0 := 179) (pc' := 213) rfl (hb hby at_179) (by decide) (by decide) ?_
          show Steps p.tables e below (T248.setTop (mkF m 213 (LS_JsJsIIJsJsIJsIIIJsJsRI q0 q1 p2 p3 q4 t0 sc ((sc.toInt64) * (1000 : Int64)) cp (1 : Int32) (1 : Int32) tp qq b166 (1 : Int32)) [])) _
          refine XS.aload X248.here hx rfl (hb hby at_213) rfl rfl ?_
          refine XS.lload X248.here hx rfl (hb hby at_215) rfl ?_
          exact k
        have A166_v253 := A166_v243.keep K246
        obtain ⟨cq252, kq252, q252a, q252b, q252c⟩ := isOf hZ246 e248 A166_v253
        obtain ⟨_, _, ⟨T252, L252, k252, n252⟩, -, X252, ⟨Lc252, hQ252, l252, y252, z252⟩, st252⟩ := X248.virtualBack hx (y := (⟨"com/example/blend2/blend2/FixedWindow", "isIdleAt", "(J)Z"⟩ : MethodName)) (z := (⟨"com/example/blend2/blend2/FixedWindow", "isIdleAt", "(J)Z"⟩ : MethodName)) ho246 (mvT hZ246 (hw _ (List.mem_of_getElem? (i := 150) rfl))) (mvT hZ246 (hw _ (List.mem_of_getElem? (i := 151) rfl))) (notFace_of_selects (args := #[]) (mvT hZ246 (hw _ (List.mem_of_getElem? (i := 153) rfl)))) (mvT hZ246 (hw _ (List.mem_of_getElem? (i := 153) rfl))) (mvT hZ246 (hw _ (List.mem_of_getElem? (i := 152) rfl))) (by decide) (backOf (W := 0) (rmidl l Z a0 hw [] b166 qq ((sc.toInt64) * (1000 : Int64)) ((own_fd t0 ((sc.toInt64) * (1000 : Int64))) * ((sc.toInt64) * (1000 : Int64))) ad246 T246.heap n0 Z0_v247 Fa246 Fs246 Fm246) hZ246 (hw _ (List.mem_of_getElem? (i := 154) rfl)) (hw _ (List.mem_of_getElem? (i := 10) rfl)) (by decide) (by decide)) q252a q252c (g := (mkF m 217 (LS_JsJsIIJsJsIJsIIIJsJsRI q0 q1 p2 p3 q4 t0 sc ((sc.toInt64) * (1000 : Int64)) cp (1 : Int32) (1 : Int32) tp qq b166 (1 : Int32)) [(.long qq), (.ref b166)])) rfl (by rw [hml]; rfl) (Steps.refl _) (argsL := [(.long qq)]) (rest := []) (lenOf pd__J_Z rfl) rfl (by show 2 * 0 + _ ≤ _; exact Nat.le_of_eq rfl) (hb hby at_217) (fun _ _ => ⟨rfl, e248, (by decide : 28 + 0 ≤ _), (by decide : 331 + 0 ≤ _)⟩)
        dsimp only [Pt.U, Pt.locs, Pt.cells, Pt.slots] at X252 l252 y252 z252 st252 hQ252
        subst l252 y252 z252
        obtain ⟨rfl, N252q, e252⟩ := hQ252
        have N252 := Fr.app N248 N252q
        refine own_go (B := T252.setTop (mkF m 220 (LS_JsJsIIJsJsIJsIIIJsJsRI q0 q1 p2 p3 q4 t0 sc ((sc.toInt64) * (1000 : Int64)) cp (1 : Int32) (1 : Int32) tp qq b166 (1 : Int32)) [(.int (if ad246 = (0 : Int32) then (1 : Int32) else if qq < (((own_fd t0 ((sc.toInt64) * (1000 : Int64))) * ((sc.toInt64) * (1000 : Int64))) + ((sc.toInt64) * (1000 : Int64))) then (0 : Int32) else (1 : Int32)))])) (fun t k => st252.trans k) ?_
        refine own_go (B := T252.setTop (mkF m 230 (LS_JsJsIIJsJsIJsIIIJsJsRI q0 q1 p2 p3 q4 t0 sc ((sc.toInt64) * (1000 : Int64)) cp (1 : Int32) (1 : Int32) tp qq b166 (1 : Int32)) [(.int (1 : Int32))])) (fun t k => ?_) ?_
        · refine XS.iload X252.here hx rfl (hb hby at_220) rfl ?_
          refine XS.icmpNo X252.here hx rfl (hb hby at_222) rfl (teq (own_fin2 (own_n0 hb246) (own_same hw1 ht1 ht2) hc169_249)).2 ?_
          show Steps p.tables e below (T252.setTop (mkF m 225 (LS_JsJsIIJsJsIJsIIIJsJsRI q0 q1 p2 p3 q4 t0 sc ((sc.toInt64) * (1000 : Int64)) cp (1 : Int32) (1 : Int32) tp qq b166 (1 : Int32)) [])) _
          refine XS.iconst X252.here hx rfl (hb hby at_225) ?_
          refine XS.goto X252.here hx rfl (pc0 := 226) (pc' := 230) rfl (hb hby at_226) (by decide) (by decide) ?_
          exact k
        obtain ⟨fs, hr, hrun, hended, hRW⟩ := Stand.leaveW (s := s) (vm₁ := T246.vm) X252 hS246 (by rw [e252]; exact hk246) (v := some (.int (1 : Int32))) (fun h => by rw [Bd.returns] at h; cases h)
        refine ⟨_, _, ?_, hrun, hended, _, _, rfl, ?_, hRW.1, hRW.2.1, hRW.2.2.1, hRW.2.2.2.mono (by decide) (by decide)⟩
        · show Steps p.tables e below (T252.setTop (mkF m 230 (LS_JsJsIIJsJsIJsIIIJsJsRI q0 q1 p2 p3 q4 t0 sc ((sc.toInt64) * (1000 : Int64)) cp (1 : Int32) (1 : Int32) tp qq b166 (1 : Int32)) [(.int (1 : Int32))])) _
          exact retN X252 hx (t := .boolean) Bd.returns (by simp) (hb hby at_230) hr
        · show Q0 Z q0 q1 p2 p3 q4 w_Algorithm_SLIDING_WINDOW_LOG w_StoreFailurePolicy_OPEN w_Duration_ZERO h0 n0 _ T252.heap _
          rw [e252]
          exact ⟨rfl, N252⟩
    · have hnhk229 : nn = (2 : Int32) := by rw [e_nn]; exact hk229
      refine own_go (B := T227.setTop (mkF m 113 (LS_JsJsIIJsJsIJsIIIJsJsRu q0 q1 p2 p3 q4 t0 sc ((sc.toInt64) * (1000 : Int64)) cp (2 : Int32) (1 : Int32) tp qq b166) [])) (fun t k => by rw [hnhk229]; exact k) ?_
      refine own_go (B := T227.setTop (mkF m 122 (LS_JsJsIIJsJsIJsIIIJsJsRu q0 q1 p2 p3 q4 t0 sc ((sc.toInt64) * (1000 : Int64)) cp (2 : Int32) (1 : Int32) tp qq b166) [(.long t0), (.ref b166)])) (fun t k => ?_) ?_
      · refine XS.iload X227.here hx rfl (hb hby at_113) rfl ?_
        refine XS.ifNo X227.here hx rfl (hb hby at_115) rfl ((if0 _ _).trans (tlt (by decide : (0 : Int32) < (2 : Int32))).2.2.2) ?_
        show Steps p.tables e below (T227.setTop (mkF m 118 (LS_JsJsIIJsJsIJsIIIJsJsRu q0 q1 p2 p3 q4 t0 sc ((sc.toInt64) * (1000 : Int64)) cp (2 : Int32) (1 : Int32) tp qq b166) [])) _
        refine XS.aload X227.here hx rfl (hb hby at_118) rfl rfl ?_
        refine XS.lload X227.here hx rfl (hb hby at_120) rfl ?_
        exact k
      have Z0_v254 := Nat.le_trans Z0_v206 K227.1
      have S_Duration_ZERO_v255 := own_sta_keep S_Duration_ZERO_v211 K227 (allS (own_plain_E A166_v224) all0)
      have E_Duration_ZERO_v256 := E_Duration_ZERO_v216.keep K227
      have F_Duration_ZERO_seconds_v257 := F_Duration_ZERO_seconds_v219.keep K186 (ninS ne221 nin0)
      have F_Duration_ZERO_seconds_v258 := F_Duration_ZERO_seconds_v257.keep K205 (ninS ne223 nin0)
      have F_Duration_ZERO_seconds_v259 := F_Duration_ZERO_seconds_v258.keep K227 (ninS ne223 nin0)
      have A166_v260 := A166_v224.keep K227
      have A167_v261 := A167_v225.keep K227
      have Fc186_v262 := Fc186_v226.keep K227 (ninS (Ne.symm ne195) nin0)
      obtain ⟨cq263, kq263, q263a, q263b, q263c⟩ := isOf hZ227 rfl A166_v260
      obtain ⟨_, _, ⟨T263, L263, k263, n263⟩, -, X263, hs263, hg263, ⟨Lc263, hQ263, l263, y263, z263⟩, st263⟩ := X227.virtualBackS hx (y := (⟨"com/example/blend2/blend2/FixedWindow", "decide", "(J)Lcom/example/blend2/blend2/Decision;"⟩ : MethodName)) (z := (⟨"com/example/blend2/blend2/FixedWindow", "decide", "(J)Lcom/example/blend2/blend2/Decision;"⟩ : MethodName)) ho227 (mvT hZ227 (hw _ (List.mem_of_getElem? (i := 75) rfl))) (mvT hZ227 (hw _ (List.mem_of_getElem? (i := 76) rfl))) (notFace_of_selects (args := #[]) (mvT hZ227 (hw _ (List.mem_of_getElem? (i := 78) rfl)))) (mvT hZ227 (hw _ (List.mem_of_getElem? (i := 78) rfl))) (mvT hZ227 (hw _ (List.mem_of_getElem? (i := 77) rfl))) (by decide) (backOfS (W := 0) (rmdec l Z a0 hw [] b166 t0 b167 w_Duration_ZERO ((sc.toInt64) * (1000 : Int64)) ((own_fd tp ((sc.toInt64) * (1000 : Int64))) * ((sc.toInt64) * (1000 : Int64))) ad227 cp T227.heap n0 Z0_v254 S_Duration_ZERO_v255 E_Duration_ZERO_v256 F_Duration_ZERO_seconds_v259 A166_v260 A167_v261 Fc186_v262 Fr227 Fm227 Fs227 Fa227 (Ne.symm ne195) ne223 g_b166 hw1 ht1 ht2 hcp ⟨(by have := hb227.1; omega), hb227.2⟩) hZ227 (hw _ (List.mem_of_getElem? (i := 79) rfl)) (hw _ (List.mem_of_getElem? (i := 10) rfl)) (by decide) (by decide)) q263a q263c (g := (mkF m 122 (LS_JsJsIIJsJsIJsIIIJsJsRu q0 q1 p2 p3 q4 t0 sc ((sc.toInt64) * (1000 : Int64)) cp (2 : Int32) (1 : Int32) tp qq b166) [(.long t0), (.ref b166)])) rfl (by rw [hml]; rfl) (Steps.refl _) (argsL := [(.long t0)]) (rest := []) (lenOf pd__J_Lcom_example_blend2_blend2_Decision_ rfl) rfl (by show 2 * 0 + _ ≤ _; exact Nat.le_of_eq rfl) (hb hby at_122) (fun _ _ => ⟨rfl, rfl, (by decide : 19 + 9 ≤ _), (by decide : 234 + 97 ≤ _)⟩)
      dsimp only [Pt.U, Pt.locs, Pt.cells, Pt.slots] at X263 l263 y263 z263 st263 hQ263 hs263 hg263
      subst l263 y263 z263
      have hS263 : s.Since T263.vm T263.heap.size := foldS (s := s) (vm0 := T227.vm) (T := T227) (U := T263) hS227 hk227 hs263 hg263
      have hZ263 : Z.Warmed39 (s.setVm T263.vm).vm := State.Warmed39.trans (t := s.setVm T227.vm) hZ227 hs263.1
      have ho263 : (s.setVm T263.vm).vm.findClass "com/example/blend2/blend2/FixedWindowIsIdleAtPinLaw" = some m.cls := by rw [show (s.setVm T263.vm).vm = T263.vm from rfl, hs263.1.alike.findClass]; exact ho227
      obtain ⟨o263, ad263, rfl, N263q, K263, Fr263, Fm263, Fs263, Fa263, hb263⟩ := hQ263
      have N263 := Fr.app N227 N263q
      have hk263 : T263.heap.size ≤ T263.heap.size := Nat.le_refl _
      refine own_go (B := T263.setTop (mkF m 125 (LS_JsJsIIJsJsIJsIIIJsJsRu q0 q1 p2 p3 q4 t0 sc ((sc.toInt64) * (1000 : Int64)) cp (2 : Int32) (1 : Int32) tp qq b166) [(.ref o263)])) (fun t k => st263.trans k) ?_
      refine own_go (B := T263.setTop (mkF m 136 (LS_JsJsIIJsJsIJsIIIJsJsRu q0 q1 p2 p3 q4 t0 sc ((sc.toInt64) * (1000 : Int64)) cp (2 : Int32) (1 : Int32) tp qq b166) [(.long t0), (.ref b166)])) (fun t k => ?_) ?_
      · refine XS.pop X263.here hx rfl (hb hby at_125) rfl rfl ?_
        refine XS.iload X263.here hx rfl (hb hby at_126) rfl ?_
        show Steps p.tables e below (T263.setTop (mkF m 128 (LS_JsJsIIJsJsIJsIIIJsJsRu q0 q1 p2 p3 q4 t0 sc ((sc.toInt64) * (1000 : Int64)) cp (2 : Int32) (1 : Int32) tp qq b166) [(.int (2 : Int32))])) _
        refine XS.iconst X263.here hx rfl (hb hby at_128) ?_
        refine XS.icmpNo X263.here hx rfl (hb hby at_129) rfl (tlt (by decide : (1 : Int32) < (2 : Int32))).2.2.2 ?_
        refine XS.aload X263.here hx rfl (hb hby at_132) rfl rfl ?_
        show Steps p.tables e below (T263.setTop (mkF m 134 (LS_JsJsIIJsJsIJsIIIJsJsRu q0 q1 p2 p3 q4 t0 sc ((sc.toInt64) * (1000 : Int64)) cp (2 : Int32) (1 : Int32) tp qq b166) [(.ref b166)])) _
        refine XS.lload X263.here hx rfl (hb hby at_134) rfl ?_
        exact k
      have Z0_v264 := Nat.le_trans Z0_v254 K263.1
      have S_Duration_ZERO_v265 := own_sta_keep S_Duration_ZERO_v255 K263 (allS (own_plain_E A166_v260) all0)
      have E_Duration_ZERO_v266 := E_Duration_ZERO_v256.keep K263
      have F_Duration_ZERO_seconds_v267 := F_Duration_ZERO_seconds_v259.keep K263 (ninS ne223 nin0)
      have A166_v268 := A166_v260.keep K263
      have A167_v269 := A167_v261.keep K263
      have Fc186_v270 := Fc186_v262.keep K263 (ninS (Ne.symm ne195) nin0)
      obtain ⟨cq271, kq271, q271a, q271b, q271c⟩ := isOf hZ263 rfl A166_v268
      obtain ⟨_, _, ⟨T271, L271, k271, n271⟩, -, X271, hs271, hg271, ⟨Lc271, hQ271, l271, y271, z271⟩, st271⟩ := X263.virtualBackS hx (y := (⟨"com/example/blend2/blend2/FixedWindow", "decide", "(J)Lcom/example/blend2/blend2/Decision;"⟩ : MethodName)) (z := (⟨"com/example/blend2/blend2/FixedWindow", "decide", "(J)Lcom/example/blend2/blend2/Decision;"⟩ : MethodName)) ho263 (mvT hZ263 (hw _ (List.mem_of_getElem? (i := 75) rfl))) (mvT hZ263 (hw _ (List.mem_of_getElem? (i := 76) rfl))) (notFace_of_selects (args := #[]) (mvT hZ263 (hw _ (List.mem_of_getElem? (i := 78) rfl)))) (mvT hZ263 (hw _ (List.mem_of_getElem? (i := 78) rfl))) (mvT hZ263 (hw _ (List.mem_of_getElem? (i := 77) rfl))) (by decide) (backOfS (W := 0) (rmdec l Z a0 hw [] b166 t0 b167 w_Duration_ZERO ((sc.toInt64) * (1000 : Int64)) ((own_fd t0 ((sc.toInt64) * (1000 : Int64))) * ((sc.toInt64) * (1000 : Int64))) ad263 cp T263.heap n0 Z0_v264 S_Duration_ZERO_v265 E_Duration_ZERO_v266 F_Duration_ZERO_seconds_v267 A166_v268 A167_v269 Fc186_v270 Fr263 Fm263 Fs263 Fa263 (Ne.symm ne195) ne223 g_b166 hw1 ht1 ht2 hcp ⟨(by have := hb263.1; omega), hb263.2⟩) hZ263 (hw _ (List.mem_of_getElem? (i := 79) rfl)) (hw _ (List.mem_of_getElem? (i := 10) rfl)) (by decide) (by decide)) q271a q271c (g := (mkF m 136 (LS_JsJsIIJsJsIJsIIIJsJsRu q0 q1 p2 p3 q4 t0 sc ((sc.toInt64) * (1000 : Int64)) cp (2 : Int32) (1 : Int32) tp qq b166) [(.long t0), (.ref b166)])) rfl (by rw [hml]; rfl) (Steps.refl _) (argsL := [(.long t0)]) (rest := []) (lenOf pd__J_Lcom_example_blend2_blend2_Decision_ rfl) rfl (by show 2 * 0 + _ ≤ _; exact Nat.le_of_eq rfl) (hb hby at_136) (fun _ _ => ⟨rfl, rfl, (by decide : 28 + 9 ≤ _), (by decide : 331 + 97 ≤ _)⟩)
      dsimp only [Pt.U, Pt.locs, Pt.cells, Pt.slots] at X271 l271 y271 z271 st271 hQ271 hs271 hg271
      subst l271 y271 z271
      have hS271 : s.Since T271.vm T271.heap.size := foldS (s := s) (vm0 := T263.vm) (T := T263) (U := T271) hS263 hk263 hs271 hg271
      have hZ271 : Z.Warmed39 (s.setVm T271.vm).vm := State.Warmed39.trans (t := s.setVm T263.vm) hZ263 hs271.1
      have ho271 : (s.setVm T271.vm).vm.findClass "com/example/blend2/blend2/FixedWindowIsIdleAtPinLaw" = some m.cls := by rw [show (s.setVm T271.vm).vm = T271.vm from rfl, hs271.1.alike.findClass]; exact ho263
      obtain ⟨o271, ad271, rfl, N271q, K271, Fr271, Fm271, Fs271, Fa271, hb271⟩ := hQ271
      have N271 := Fr.app N263 N271q
      have hk271 : T271.heap.size ≤ T271.heap.size := Nat.le_refl _
      refine own_go (B := T271.setTop (mkF m 139 (LS_JsJsIIJsJsIJsIIIJsJsRu q0 q1 p2 p3 q4 t0 sc ((sc.toInt64) * (1000 : Int64)) cp (2 : Int32) (1 : Int32) tp qq b166) [(.ref o271)])) (fun t k => st271.trans k) ?_
      refine own_go (B := T271.setTop (mkF m 165 (LS_JsJsIIJsJsIJsIIIJsJsRu q0 q1 p2 p3 q4 t0 sc ((sc.toInt64) * (1000 : Int64)) cp (2 : Int32) (1 : Int32) tp qq b166) [(.long ((sc.toInt64) * (1000 : Int64))), (.long t0), (.long qq)])) (fun t k => ?_) ?_
      · refine XS.pop X271.here hx rfl (hb hby at_139) rfl rfl ?_
        refine XS.iload X271.here hx rfl (hb hby at_140) rfl ?_
        show Steps p.tables e below (T271.setTop (mkF m 142 (LS_JsJsIIJsJsIJsIIIJsJsRu q0 q1 p2 p3 q4 t0 sc ((sc.toInt64) * (1000 : Int64)) cp (2 : Int32) (1 : Int32) tp qq b166) [(.int (2 : Int32))])) _
        refine XS.iconst X271.here hx rfl (hb hby at_142) ?_
        refine XS.icmpYes X271.here hx rfl (pc0 := 143) (pc' := 154) rfl (hb hby at_143) rfl (flt (by decide : ¬ ((2 : Int32) < (2 : Int32)))).2.2.2 (by decide) (by decide) ?_
        refine XS.iload X271.here hx rfl (hb hby at_154) rfl ?_
        show Steps p.tables e below (T271.setTop (mkF m 156 (LS_JsJsIIJsJsIJsIIIJsJsRu q0 q1 p2 p3 q4 t0 sc ((sc.toInt64) * (1000 : Int64)) cp (2 : Int32) (1 : Int32) tp qq b166) [(.int (2 : Int32))])) _
        refine XS.ifNo X271.here hx rfl (hb hby at_156) rfl ((if0 _ _).trans (tlt (by decide : (0 : Int32) < (2 : Int32))).2.2.2) ?_
        refine XS.lload X271.here hx rfl (hb hby at_159) rfl ?_
        refine XS.lload X271.here hx rfl (hb hby at_161) rfl ?_
        show Steps p.tables e below (T271.setTop (mkF m 163 (LS_JsJsIIJsJsIJsIIIJsJsRu q0 q1 p2 p3 q4 t0 sc ((sc.toInt64) * (1000 : Int64)) cp (2 : Int32) (1 : Int32) tp qq b166) [(.long t0), (.long qq)])) _
        refine XS.lload X271.here hx rfl (hb hby at_163) rfl ?_
        exact k
      have Z0_v272 := Nat.le_trans Z0_v264 K271.1
      obtain ⟨_, _, ⟨T273, L273, k273, n273⟩, -, X273, ⟨Lc273, hQ273, l273, y273, z273⟩, st273⟩ := Jvm.LawKit.callS X271 hx (y := (⟨"com/example/blend2/blend2/FixedWindowIsIdleAtPinLaw", "windowEnd", "(JJ)J"⟩ : MethodName)) ho271 (mvT hZ271 (hw _ (List.mem_of_getElem? (i := 146) rfl))) (mvT hZ271 (hw _ (List.mem_of_getElem? (i := 147) rfl))) (mvT hZ271 (hw _ (List.mem_of_getElem? (i := 148) rfl))) (mvT hZ271 (hw _ (List.mem_of_getElem? (i := 149) rfl))) (by decide) (backOf (W := 2) (rmwen l Z a0 hw [] t0 ((sc.toInt64) * (1000 : Int64)) T271.heap n0 Z0_v272 (own_ne0 hw1)) hZ271 (hw _ (List.mem_of_getElem? (i := 149) rfl)) (hw _ (List.mem_of_getElem? (i := 148) rfl)) (by decide) (by decide)) (g := (mkF m 165 (LS_JsJsIIJsJsIJsIIIJsJsRu q0 q1 p2 p3 q4 t0 sc ((sc.toInt64) * (1000 : Int64)) cp (2 : Int32) (1 : Int32) tp qq b166) [(.long ((sc.toInt64) * (1000 : Int64))), (.long t0), (.long qq)])) rfl (by rw [hml]; rfl) (argsL := [(.long t0), (.long ((sc.toInt64) * (1000 : Int64)))]) (rest := [(.long qq)]) (lenOf pd__JJ_J rfl) rfl (by show 2 * 0 + _ ≤ _; exact Nat.le_of_eq rfl) (hb hby at_165) (fun _ _ => ⟨rfl, rfl, (by decide : 37 + 0 ≤ _), (by decide : 428 + 0 ≤ _)⟩)
      dsimp only [Pt.U, Pt.locs, Pt.cells, Pt.slots] at X273 l273 y273 z273 st273 hQ273
      subst l273 y273 z273
      obtain ⟨rfl, N273q, e273⟩ := hQ273
      have N273 := Fr.app N271 N273q
      refine own_go (B := T273.setTop (mkF m 168 (LS_JsJsIIJsJsIJsIIIJsJsRu q0 q1 p2 p3 q4 t0 sc ((sc.toInt64) * (1000 : Int64)) cp (2 : Int32) (1 : Int32) tp qq b166) [(.long (own_we t0 ((sc.toInt64) * (1000 : Int64)))), (.long qq)])) (fun t k => st273 _ k) ?_
      refine own_go (B := T273.setTop (mkF m 169 (LS_JsJsIIJsJsIJsIIIJsJsRu q0 q1 p2 p3 q4 t0 sc ((sc.toInt64) * (1000 : Int64)) cp (2 : Int32) (1 : Int32) tp qq b166) [(.int (lcmpW qq (own_we t0 ((sc.toInt64) * (1000 : Int64)))))])) (fun t k => ?_) ?_
      · refine XS.lcmp X273.here hx rfl (hb hby at_168) rfl ?_
        exact k
      by_cases hc169_274 : qq < (own_we t0 ((sc.toInt64) * (1000 : Int64)))
      · refine own_go (B := T273.setTop (mkF m 217 (LS_JsJsIIJsJsIJsIIIJsJsRI q0 q1 p2 p3 q4 t0 sc ((sc.toInt64) * (1000 : Int64)) cp (2 : Int32) (1 : Int32) tp qq b166 (0 : Int32)) [(.long qq), (.ref b166)])) (fun t k => ?_) ?_
        · refine XS.ifYes X273.here hx rfl (pc0 := 169) (pc' := 176) rfl (hb hby at_169) rfl ((if0 _ _).trans (tlt ((lw_lt qq (own_we t0 ((sc.toInt64) * (1000 : Int64)))).mpr hc169_274)).1) (by decide) (by decide) ?_
          refine XS.iconst X273.here hx rfl (hb hby at_176) ?_
          show Steps p.tables e below (T273.setTop (mkF m 177 (LS_JsJsIIJsJsIJsIIIJsJsRu q0 q1 p2 p3 q4 t0 sc ((sc.toInt64) * (1000 : Int64)) cp (2 : Int32) (1 : Int32) tp qq b166) [(.int (0 : Int32))])) _
          refine XS.istore X273.here hx rfl (hb hby at_177) rfl (l' := (LS_JsJsIIJsJsIJsIIIJsJsRI q0 q1 p2 p3 q4 t0 sc ((sc.toInt64) * (1000 : Int64)) cp (2 : Int32) (1 : Int32) tp qq b166 (0 : Int32))) rfl ?_
          refine XS.goto X273.here hx rfl (pc0 := 179) (pc' := 213) rfl (hb hby at_179) (by decide) (by decide) ?_
          refine XS.aload X273.here hx rfl (hb hby at_213) rfl rfl ?_
          show Steps p.tables e below (T273.setTop (mkF m 215 (LS_JsJsIIJsJsIJsIIIJsJsRI q0 q1 p2 p3 q4 t0 sc ((sc.toInt64) * (1000 : Int64)) cp (2 : Int32) (1 : Int32) tp qq b166 (0 : Int32)) [(.ref b166)])) _
          refine XS.lload X273.here hx rfl (hb hby at_215) rfl ?_
          exact k
        have A166_v276 := A166_v268.keep K271
        obtain ⟨cq275, kq275, q275a, q275b, q275c⟩ := isOf hZ271 e273 A166_v276
        obtain ⟨_, _, ⟨T275, L275, k275, n275⟩, -, X275, ⟨Lc275, hQ275, l275, y275, z275⟩, st275⟩ := X273.virtualBack hx (y := (⟨"com/example/blend2/blend2/FixedWindow", "isIdleAt", "(J)Z"⟩ : MethodName)) (z := (⟨"com/example/blend2/blend2/FixedWindow", "isIdleAt", "(J)Z"⟩ : MethodName)) ho271 (mvT hZ271 (hw _ (List.mem_of_getElem? (i := 150) rfl))) (mvT hZ271 (hw _ (List.mem_of_getElem? (i := 151) rfl))) (notFace_of_selects (args := #[]) (mvT hZ271 (hw _ (List.mem_of_getElem? (i := 153) rfl)))) (mvT hZ271 (hw _ (List.mem_of_getElem? (i := 153) rfl))) (mvT hZ271 (hw _ (List.mem_of_getElem? (i := 152) rfl))) (by decide) (backOf (W := 0) (rmidl l Z a0 hw [] b166 qq ((sc.toInt64) * (1000 : Int64)) ((own_fd t0 ((sc.toInt64) * (1000 : Int64))) * ((sc.toInt64) * (1000 : Int64))) ad271 T271.heap n0 Z0_v272 Fa271 Fs271 Fm271) hZ271 (hw _ (List.mem_of_getElem? (i := 154) rfl)) (hw _ (List.mem_of_getElem? (i := 10) rfl)) (by decide) (by decide)) q275a q275c (g := (mkF m 217 (LS_JsJsIIJsJsIJsIIIJsJsRI q0 q1 p2 p3 q4 t0 sc ((sc.toInt64) * (1000 : Int64)) cp (2 : Int32) (1 : Int32) tp qq b166 (0 : Int32)) [(.long qq), (.ref b166)])) rfl (by rw [hml]; rfl) (Steps.refl _) (argsL := [(.long qq)]) (rest := []) (lenOf pd__J_Z rfl) rfl (by show 2 * 0 + _ ≤ _; exact Nat.le_of_eq rfl) (hb hby at_217) (fun _ _ => ⟨rfl, e273, (by decide : 37 + 0 ≤ _), (by decide : 428 + 0 ≤ _)⟩)
        dsimp only [Pt.U, Pt.locs, Pt.cells, Pt.slots] at X275 l275 y275 z275 st275 hQ275
        subst l275 y275 z275
        obtain ⟨rfl, N275q, e275⟩ := hQ275
        have N275 := Fr.app N273 N275q
        refine own_go (B := T275.setTop (mkF m 220 (LS_JsJsIIJsJsIJsIIIJsJsRI q0 q1 p2 p3 q4 t0 sc ((sc.toInt64) * (1000 : Int64)) cp (2 : Int32) (1 : Int32) tp qq b166 (0 : Int32)) [(.int (if ad271 = (0 : Int32) then (1 : Int32) else if qq < (((own_fd t0 ((sc.toInt64) * (1000 : Int64))) * ((sc.toInt64) * (1000 : Int64))) + ((sc.toInt64) * (1000 : Int64))) then (0 : Int32) else (1 : Int32)))])) (fun t k => st275.trans k) ?_
        refine own_go (B := T275.setTop (mkF m 230 (LS_JsJsIIJsJsIJsIIIJsJsRI q0 q1 p2 p3 q4 t0 sc ((sc.toInt64) * (1000 : Int64)) cp (2 : Int32) (1 : Int32) tp qq b166 (0 : Int32)) [(.int (1 : Int32))])) (fun t k => ?_) ?_
        · refine XS.iload X275.here hx rfl (hb hby at_220) rfl ?_
          refine XS.icmpNo X275.here hx rfl (hb hby at_222) rfl (teq (own_fin (own_n0 hb271) (own_same hw1 ht1 ht2) hc169_274)).2 ?_
          show Steps p.tables e below (T275.setTop (mkF m 225 (LS_JsJsIIJsJsIJsIIIJsJsRI q0 q1 p2 p3 q4 t0 sc ((sc.toInt64) * (1000 : Int64)) cp (2 : Int32) (1 : Int32) tp qq b166 (0 : Int32)) [])) _
          refine XS.iconst X275.here hx rfl (hb hby at_225) ?_
          refine XS.goto X275.here hx rfl (pc0 := 226) (pc' := 230) rfl (hb hby at_226) (by decide) (by decide) ?_
          exact k
        obtain ⟨fs, hr, hrun, hended, hRW⟩ := Stand.leaveW (s := s) (vm₁ := T271.vm) X275 hS271 (by rw [e275]; exact hk271) (v := some (.int (1 : Int32))) (fun h => by rw [Bd.returns] at h; cases h)
        refine ⟨_, _, ?_, hrun, hended, _, _, rfl, ?_, hRW.1, hRW.2.1, hRW.2.2.1, hRW.2.2.2.mono (by decide) (by decide)⟩
        · show Steps p.tables e below (T275.setTop (mkF m 230 (LS_JsJsIIJsJsIJsIIIJsJsRI q0 q1 p2 p3 q4 t0 sc ((sc.toInt64) * (1000 : Int64)) cp (2 : Int32) (1 : Int32) tp qq b166 (0 : Int32)) [(.int (1 : Int32))])) _
          exact retN X275 hx (t := .boolean) Bd.returns (by simp) (hb hby at_230) hr
        · show Q0 Z q0 q1 p2 p3 q4 w_Algorithm_SLIDING_WINDOW_LOG w_StoreFailurePolicy_OPEN w_Duration_ZERO h0 n0 _ T275.heap _
          rw [e275]
          exact ⟨rfl, N275⟩
      · refine own_go (B := T273.setTop (mkF m 217 (LS_JsJsIIJsJsIJsIIIJsJsRI q0 q1 p2 p3 q4 t0 sc ((sc.toInt64) * (1000 : Int64)) cp (2 : Int32) (1 : Int32) tp qq b166 (1 : Int32)) [(.long qq), (.ref b166)])) (fun t k => ?_) ?_
        · refine XS.ifNo X273.here hx rfl (hb hby at_169) rfl ((if0 _ _).trans (flt (fun q => hc169_274 ((lw_lt qq (own_we t0 ((sc.toInt64) * (1000 : Int64)))).mp q))).1) ?_
          refine XS.iconst X273.here hx rfl (hb hby at_172) ?_
          show Steps p.tables e below (T273.setTop (mkF m 173 (LS_JsJsIIJsJsIJsIIIJsJsRu q0 q1 p2 p3 q4 t0 sc ((sc.toInt64) * (1000 : Int64)) cp (2 : Int32) (1 : Int32) tp qq b166) [(.int (1 : Int32))])) _
          refine XS.goto X273.here hx rfl (pc0 := 173) (pc' := 177) rfl (hb hby at_173) (by decide) (by decide) ?_
          refine XS.istore X273.here hx rfl (hb hby at_177) rfl (l' := (LS_JsJsIIJsJsIJsIIIJsJsRI q0 q1 p2 p3 q4 t0 sc ((sc.toInt64) * (1000 : Int64)) cp (2 : Int32) (1 : Int32) tp qq b166 (1 : Int32))) rfl ?_
          refine XS.goto X273.here hx rfl (pc0 := 179) (pc' := 213) rfl (hb hby at_179) (by decide) (by decide) ?_
          show Steps p.tables e below (T273.setTop (mkF m 213 (LS_JsJsIIJsJsIJsIIIJsJsRI q0 q1 p2 p3 q4 t0 sc ((sc.toInt64) * (1000 : Int64)) cp (2 : Int32) (1 : Int32) tp qq b166 (1 : Int32)) [])) _
          refine XS.aload X273.here hx rfl (hb hby at_213) rfl rfl ?_
          refine XS.lload X273.here hx rfl (hb hby at_215) rfl ?_
          exact k
        have A166_v278 := A166_v268.keep K271
        obtain ⟨cq277, kq277, q277a, q277b, q277c⟩ := isOf hZ271 e273 A166_v278
        obtain ⟨_, _, ⟨T277, L277, k277, n277⟩, -, X277, ⟨Lc277, hQ277, l277, y277, z277⟩, st277⟩ := X273.virtualBack hx (y := (⟨"com/example/blend2/blend2/FixedWindow", "isIdleAt", "(J)Z"⟩ : MethodName)) (z := (⟨"com/example/blend2/blend2/FixedWindow", "isIdleAt", "(J)Z"⟩ : MethodName)) ho271 (mvT hZ271 (hw _ (List.mem_of_getElem? (i := 150) rfl))) (mvT hZ271 (hw _ (List.mem_of_getElem? (i := 151) rfl))) (notFace_of_selects (args := #[]) (mvT hZ271 (hw _ (List.mem_of_getElem? (i := 153) rfl)))) (mvT hZ271 (hw _ (List.mem_of_getElem? (i := 153) rfl))) (mvT hZ271 (hw _ (List.mem_of_getElem? (i := 152) rfl))) (by decide) (backOf (W := 0) (rmidl l Z a0 hw [] b166 qq ((sc.toInt64) * (1000 : Int64)) ((own_fd t0 ((sc.toInt64) * (1000 : Int64))) * ((sc.toInt64) * (1000 : Int64))) ad271 T271.heap n0 Z0_v272 Fa271 Fs271 Fm271) hZ271 (hw _ (List.mem_of_getElem? (i := 154) rfl)) (hw _ (List.mem_of_getElem? (i := 10) rfl)) (by decide) (by decide)) q277a q277c (g := (mkF m 217 (LS_JsJsIIJsJsIJsIIIJsJsRI q0 q1 p2 p3 q4 t0 sc ((sc.toInt64) * (1000 : Int64)) cp (2 : Int32) (1 : Int32) tp qq b166 (1 : Int32)) [(.long qq), (.ref b166)])) rfl (by rw [hml]; rfl) (Steps.refl _) (argsL := [(.long qq)]) (rest := []) (lenOf pd__J_Z rfl) rfl (by show 2 * 0 + _ ≤ _; exact Nat.le_of_eq rfl) (hb hby at_217) (fun _ _ => ⟨rfl, e273, (by decide : 37 + 0 ≤ _), (by decide : 428 + 0 ≤ _)⟩)
        dsimp only [Pt.U, Pt.locs, Pt.cells, Pt.slots] at X277 l277 y277 z277 st277 hQ277
        subst l277 y277 z277
        obtain ⟨rfl, N277q, e277⟩ := hQ277
        have N277 := Fr.app N273 N277q
        refine own_go (B := T277.setTop (mkF m 220 (LS_JsJsIIJsJsIJsIIIJsJsRI q0 q1 p2 p3 q4 t0 sc ((sc.toInt64) * (1000 : Int64)) cp (2 : Int32) (1 : Int32) tp qq b166 (1 : Int32)) [(.int (if ad271 = (0 : Int32) then (1 : Int32) else if qq < (((own_fd t0 ((sc.toInt64) * (1000 : Int64))) * ((sc.toInt64) * (1000 : Int64))) + ((sc.toInt64) * (1000 : Int64))) then (0 : Int32) else (1 : Int32)))])) (fun t k => st277.trans k) ?_
        refine own_go (B := T277.setTop (mkF m 230 (LS_JsJsIIJsJsIJsIIIJsJsRI q0 q1 p2 p3 q4 t0 sc ((sc.toInt64) * (1000 : Int64)) cp (2 : Int32) (1 : Int32) tp qq b166 (1 : Int32)) [(.int (1 : Int32))])) (fun t k => ?_) ?_
        · refine XS.iload X277.here hx rfl (hb hby at_220) rfl ?_
          refine XS.icmpNo X277.here hx rfl (hb hby at_222) rfl (teq (own_fin2 (own_n0 hb271) (own_same hw1 ht1 ht2) hc169_274)).2 ?_
          show Steps p.tables e below (T277.setTop (mkF m 225 (LS_JsJsIIJsJsIJsIIIJsJsRI q0 q1 p2 p3 q4 t0 sc ((sc.toInt64) * (1000 : Int64)) cp (2 : Int32) (1 : Int32) tp qq b166 (1 : Int32)) [])) _
          refine XS.iconst X277.here hx rfl (hb hby at_225) ?_
          refine XS.goto X277.here hx rfl (pc0 := 226) (pc' := 230) rfl (hb hby at_226) (by decide) (by decide) ?_
          exact k
        obtain ⟨fs, hr, hrun, hended, hRW⟩ := Stand.leaveW (s := s) (vm₁ := T271.vm) X277 hS271 (by rw [e277]; exact hk271) (v := some (.int (1 : Int32))) (fun h => by rw [Bd.returns] at h; cases h)
        refine ⟨_, _, ?_, hrun, hended, _, _, rfl, ?_, hRW.1, hRW.2.1, hRW.2.2.1, hRW.2.2.2.mono (by decide) (by decide)⟩
        · show Steps p.tables e below (T277.setTop (mkF m 230 (LS_JsJsIIJsJsIJsIIIJsJsRI q0 q1 p2 p3 q4 t0 sc ((sc.toInt64) * (1000 : Int64)) cp (2 : Int32) (1 : Int32) tp qq b166 (1 : Int32)) [(.int (1 : Int32))])) _
          exact retN X277 hx (t := .boolean) Bd.returns (by simp) (hb hby at_230) hr
        · show Q0 Z q0 q1 p2 p3 q4 w_Algorithm_SLIDING_WINDOW_LOG w_StoreFailurePolicy_OPEN w_Duration_ZERO h0 n0 _ T277.heap _
          rw [e277]
          exact ⟨rfl, N277⟩
    · have hnhk229 : nn = (3 : Int32) := by rw [e_nn]; exact hk229
      refine own_go (B := T227.setTop (mkF m 113 (LS_JsJsIIJsJsIJsIIIJsJsRu q0 q1 p2 p3 q4 t0 sc ((sc.toInt64) * (1000 : Int64)) cp (3 : Int32) (1 : Int32) tp qq b166) [])) (fun t k => by rw [hnhk229]; exact k) ?_
      refine own_go (B := T227.setTop (mkF m 122 (LS_JsJsIIJsJsIJsIIIJsJsRu q0 q1 p2 p3 q4 t0 sc ((sc.toInt64) * (1000 : Int64)) cp (3 : Int32) (1 : Int32) tp qq b166) [(.long t0), (.ref b166)])) (fun t k => ?_) ?_
      · refine XS.iload X227.here hx rfl (hb hby at_113) rfl ?_
        refine XS.ifNo X227.here hx rfl (hb hby at_115) rfl ((if0 _ _).trans (tlt (by decide : (0 : Int32) < (3 : Int32))).2.2.2) ?_
        show Steps p.tables e below (T227.setTop (mkF m 118 (LS_JsJsIIJsJsIJsIIIJsJsRu q0 q1 p2 p3 q4 t0 sc ((sc.toInt64) * (1000 : Int64)) cp (3 : Int32) (1 : Int32) tp qq b166) [])) _
        refine XS.aload X227.here hx rfl (hb hby at_118) rfl rfl ?_
        refine XS.lload X227.here hx rfl (hb hby at_120) rfl ?_
        exact k
      have Z0_v279 := Nat.le_trans Z0_v206 K227.1
      have S_Duration_ZERO_v280 := own_sta_keep S_Duration_ZERO_v211 K227 (allS (own_plain_E A166_v224) all0)
      have E_Duration_ZERO_v281 := E_Duration_ZERO_v216.keep K227
      have F_Duration_ZERO_seconds_v282 := F_Duration_ZERO_seconds_v219.keep K186 (ninS ne221 nin0)
      have F_Duration_ZERO_seconds_v283 := F_Duration_ZERO_seconds_v282.keep K205 (ninS ne223 nin0)
      have F_Duration_ZERO_seconds_v284 := F_Duration_ZERO_seconds_v283.keep K227 (ninS ne223 nin0)
      have A166_v285 := A166_v224.keep K227
      have A167_v286 := A167_v225.keep K227
      have Fc186_v287 := Fc186_v226.keep K227 (ninS (Ne.symm ne195) nin0)
      obtain ⟨cq288, kq288, q288a, q288b, q288c⟩ := isOf hZ227 rfl A166_v285
      obtain ⟨_, _, ⟨T288, L288, k288, n288⟩, -, X288, hs288, hg288, ⟨Lc288, hQ288, l288, y288, z288⟩, st288⟩ := X227.virtualBackS hx (y := (⟨"com/example/blend2/blend2/FixedWindow", "decide", "(J)Lcom/example/blend2/blend2/Decision;"⟩ : MethodName)) (z := (⟨"com/example/blend2/blend2/FixedWindow", "decide", "(J)Lcom/example/blend2/blend2/Decision;"⟩ : MethodName)) ho227 (mvT hZ227 (hw _ (List.mem_of_getElem? (i := 75) rfl))) (mvT hZ227 (hw _ (List.mem_of_getElem? (i := 76) rfl))) (notFace_of_selects (args := #[]) (mvT hZ227 (hw _ (List.mem_of_getElem? (i := 78) rfl)))) (mvT hZ227 (hw _ (List.mem_of_getElem? (i := 78) rfl))) (mvT hZ227 (hw _ (List.mem_of_getElem? (i := 77) rfl))) (by decide) (backOfS (W := 0) (rmdec l Z a0 hw [] b166 t0 b167 w_Duration_ZERO ((sc.toInt64) * (1000 : Int64)) ((own_fd tp ((sc.toInt64) * (1000 : Int64))) * ((sc.toInt64) * (1000 : Int64))) ad227 cp T227.heap n0 Z0_v279 S_Duration_ZERO_v280 E_Duration_ZERO_v281 F_Duration_ZERO_seconds_v284 A166_v285 A167_v286 Fc186_v287 Fr227 Fm227 Fs227 Fa227 (Ne.symm ne195) ne223 g_b166 hw1 ht1 ht2 hcp ⟨(by have := hb227.1; omega), hb227.2⟩) hZ227 (hw _ (List.mem_of_getElem? (i := 79) rfl)) (hw _ (List.mem_of_getElem? (i := 10) rfl)) (by decide) (by decide)) q288a q288c (g := (mkF m 122 (LS_JsJsIIJsJsIJsIIIJsJsRu q0 q1 p2 p3 q4 t0 sc ((sc.toInt64) * (1000 : Int64)) cp (3 : Int32) (1 : Int32) tp qq b166) [(.long t0), (.ref b166)])) rfl (by rw [hml]; rfl) (Steps.refl _) (argsL := [(.long t0)]) (rest := []) (lenOf pd__J_Lcom_example_blend2_blend2_Decision_ rfl) rfl (by show 2 * 0 + _ ≤ _; exact Nat.le_of_eq rfl) (hb hby at_122) (fun _ _ => ⟨rfl, rfl, (by decide : 19 + 9 ≤ _), (by decide : 234 + 97 ≤ _)⟩)
      dsimp only [Pt.U, Pt.locs, Pt.cells, Pt.slots] at X288 l288 y288 z288 st288 hQ288 hs288 hg288
      subst l288 y288 z288
      have hS288 : s.Since T288.vm T288.heap.size := foldS (s := s) (vm0 := T227.vm) (T := T227) (U := T288) hS227 hk227 hs288 hg288
      have hZ288 : Z.Warmed39 (s.setVm T288.vm).vm := State.Warmed39.trans (t := s.setVm T227.vm) hZ227 hs288.1
      have ho288 : (s.setVm T288.vm).vm.findClass "com/example/blend2/blend2/FixedWindowIsIdleAtPinLaw" = some m.cls := by rw [show (s.setVm T288.vm).vm = T288.vm from rfl, hs288.1.alike.findClass]; exact ho227
      obtain ⟨o288, ad288, rfl, N288q, K288, Fr288, Fm288, Fs288, Fa288, hb288⟩ := hQ288
      have N288 := Fr.app N227 N288q
      have hk288 : T288.heap.size ≤ T288.heap.size := Nat.le_refl _
      refine own_go (B := T288.setTop (mkF m 125 (LS_JsJsIIJsJsIJsIIIJsJsRu q0 q1 p2 p3 q4 t0 sc ((sc.toInt64) * (1000 : Int64)) cp (3 : Int32) (1 : Int32) tp qq b166) [(.ref o288)])) (fun t k => st288.trans k) ?_
      refine own_go (B := T288.setTop (mkF m 136 (LS_JsJsIIJsJsIJsIIIJsJsRu q0 q1 p2 p3 q4 t0 sc ((sc.toInt64) * (1000 : Int64)) cp (3 : Int32) (1 : Int32) tp qq b166) [(.long t0), (.ref b166)])) (fun t k => ?_) ?_
      · refine XS.pop X288.here hx rfl (hb hby at_125) rfl rfl ?_
        refine XS.iload X288.here hx rfl (hb hby at_126) rfl ?_
        show Steps p.tables e below (T288.setTop (mkF m 128 (LS_JsJsIIJsJsIJsIIIJsJsRu q0 q1 p2 p3 q4 t0 sc ((sc.toInt64) * (1000 : Int64)) cp (3 : Int32) (1 : Int32) tp qq b166) [(.int (3 : Int32))])) _
        refine XS.iconst X288.here hx rfl (hb hby at_128) ?_
        refine XS.icmpNo X288.here hx rfl (hb hby at_129) rfl (tlt (by decide : (1 : Int32) < (3 : Int32))).2.2.2 ?_
        refine XS.aload X288.here hx rfl (hb hby at_132) rfl rfl ?_
        show Steps p.tables e below (T288.setTop (mkF m 134 (LS_JsJsIIJsJsIJsIIIJsJsRu q0 q1 p2 p3 q4 t0 sc ((sc.toInt64) * (1000 : Int64)) cp (3 : Int32) (1 : Int32) tp qq b166) [(.ref b166)])) _
        refine XS.lload X288.here hx rfl (hb hby at_134) rfl ?_
        exact k
      have Z0_v289 := Nat.le_trans Z0_v279 K288.1
      have S_Duration_ZERO_v290 := own_sta_keep S_Duration_ZERO_v280 K288 (allS (own_plain_E A166_v285) all0)
      have E_Duration_ZERO_v291 := E_Duration_ZERO_v281.keep K288
      have F_Duration_ZERO_seconds_v292 := F_Duration_ZERO_seconds_v284.keep K288 (ninS ne223 nin0)
      have A166_v293 := A166_v285.keep K288
      have A167_v294 := A167_v286.keep K288
      have Fc186_v295 := Fc186_v287.keep K288 (ninS (Ne.symm ne195) nin0)
      obtain ⟨cq296, kq296, q296a, q296b, q296c⟩ := isOf hZ288 rfl A166_v293
      obtain ⟨_, _, ⟨T296, L296, k296, n296⟩, -, X296, hs296, hg296, ⟨Lc296, hQ296, l296, y296, z296⟩, st296⟩ := X288.virtualBackS hx (y := (⟨"com/example/blend2/blend2/FixedWindow", "decide", "(J)Lcom/example/blend2/blend2/Decision;"⟩ : MethodName)) (z := (⟨"com/example/blend2/blend2/FixedWindow", "decide", "(J)Lcom/example/blend2/blend2/Decision;"⟩ : MethodName)) ho288 (mvT hZ288 (hw _ (List.mem_of_getElem? (i := 75) rfl))) (mvT hZ288 (hw _ (List.mem_of_getElem? (i := 76) rfl))) (notFace_of_selects (args := #[]) (mvT hZ288 (hw _ (List.mem_of_getElem? (i := 78) rfl)))) (mvT hZ288 (hw _ (List.mem_of_getElem? (i := 78) rfl))) (mvT hZ288 (hw _ (List.mem_of_getElem? (i := 77) rfl))) (by decide) (backOfS (W := 0) (rmdec l Z a0 hw [] b166 t0 b167 w_Duration_ZERO ((sc.toInt64) * (1000 : Int64)) ((own_fd t0 ((sc.toInt64) * (1000 : Int64))) * ((sc.toInt64) * (1000 : Int64))) ad288 cp T288.heap n0 Z0_v289 S_Duration_ZERO_v290 E_Duration_ZERO_v291 F_Duration_ZERO_seconds_v292 A166_v293 A167_v294 Fc186_v295 Fr288 Fm288 Fs288 Fa288 (Ne.symm ne195) ne223 g_b166 hw1 ht1 ht2 hcp ⟨(by have := hb288.1; omega), hb288.2⟩) hZ288 (hw _ (List.mem_of_getElem? (i := 79) rfl)) (hw _ (List.mem_of_getElem? (i := 10) rfl)) (by decide) (by decide)) q296a q296c (g := (mkF m 136 (LS_JsJsIIJsJsIJsIIIJsJsRu q0 q1 p2 p3 q4 t0 sc ((sc.toInt64) * (1000 : Int64)) cp (3 : Int32) (1 : Int32) tp qq b166) [(.long t0), (.ref b166)])) rfl (by rw [hml]; rfl) (Steps.refl _) (argsL := [(.long t0)]) (rest := []) (lenOf pd__J_Lcom_example_blend2_blend2_Decision_ rfl) rfl (by show 2 * 0 + _ ≤ _; exact Nat.le_of_eq rfl) (hb hby at_136) (fun _ _ => ⟨rfl, rfl, (by decide : 28 + 9 ≤ _), (by decide : 331 + 97 ≤ _)⟩)
      dsimp only [Pt.U, Pt.locs, Pt.cells, Pt.slots] at X296 l296 y296 z296 st296 hQ296 hs296 hg296
      subst l296 y296 z296
      have hS296 : s.Since T296.vm T296.heap.size := foldS (s := s) (vm0 := T288.vm) (T := T288) (U := T296) hS288 hk288 hs296 hg296
      have hZ296 : Z.Warmed39 (s.setVm T296.vm).vm := State.Warmed39.trans (t := s.setVm T288.vm) hZ288 hs296.1
      have ho296 : (s.setVm T296.vm).vm.findClass "com/example/blend2/blend2/FixedWindowIsIdleAtPinLaw" = some m.cls := by rw [show (s.setVm T296.vm).vm = T296.vm from rfl, hs296.1.alike.findClass]; exact ho288
      obtain ⟨o296, ad296, rfl, N296q, K296, Fr296, Fm296, Fs296, Fa296, hb296⟩ := hQ296
      have N296 := Fr.app N288 N296q
      have hk296 : T296.heap.size ≤ T296.heap.size := Nat.le_refl _
      refine own_go (B := T296.setTop (mkF m 139 (LS_JsJsIIJsJsIJsIIIJsJsRu q0 q1 p2 p3 q4 t0 sc ((sc.toInt64) * (1000 : Int64)) cp (3 : Int32) (1 : Int32) tp qq b166) [(.ref o296)])) (fun t k => st296.trans k) ?_
      refine own_go (B := T296.setTop (mkF m 150 (LS_JsJsIIJsJsIJsIIIJsJsRu q0 q1 p2 p3 q4 t0 sc ((sc.toInt64) * (1000 : Int64)) cp (3 : Int32) (1 : Int32) tp qq b166) [(.long t0), (.ref b166)])) (fun t k => ?_) ?_
      · refine XS.pop X296.here hx rfl (hb hby at_139) rfl rfl ?_
        refine XS.iload X296.here hx rfl (hb hby at_140) rfl ?_
        show Steps p.tables e below (T296.setTop (mkF m 142 (LS_JsJsIIJsJsIJsIIIJsJsRu q0 q1 p2 p3 q4 t0 sc ((sc.toInt64) * (1000 : Int64)) cp (3 : Int32) (1 : Int32) tp qq b166) [(.int (3 : Int32))])) _
        refine XS.iconst X296.here hx rfl (hb hby at_142) ?_
        refine XS.icmpNo X296.here hx rfl (hb hby at_143) rfl (tlt (by decide : (2 : Int32) < (3 : Int32))).2.2.2 ?_
        refine XS.aload X296.here hx rfl (hb hby at_146) rfl rfl ?_
        show Steps p.tables e below (T296.setTop (mkF m 148 (LS_JsJsIIJsJsIJsIIIJsJsRu q0 q1 p2 p3 q4 t0 sc ((sc.toInt64) * (1000 : Int64)) cp (3 : Int32) (1 : Int32) tp qq b166) [(.ref b166)])) _
        refine XS.lload X296.here hx rfl (hb hby at_148) rfl ?_
        exact k
      have Z0_v297 := Nat.le_trans Z0_v289 K296.1
      have S_Duration_ZERO_v298 := own_sta_keep S_Duration_ZERO_v290 K296 (allS (own_plain_E A166_v293) all0)
      have E_Duration_ZERO_v299 := E_Duration_ZERO_v291.keep K296
      have F_Duration_ZERO_seconds_v300 := F_Duration_ZERO_seconds_v292.keep K296 (ninS ne223 nin0)
      have A166_v301 := A166_v293.keep K296
      have A167_v302 := A167_v294.keep K296
      have Fc186_v303 := Fc186_v295.keep K296 (ninS (Ne.symm ne195) nin0)
      obtain ⟨cq304, kq304, q304a, q304b, q304c⟩ := isOf hZ296 rfl A166_v301
      obtain ⟨_, _, ⟨T304, L304, k304, n304⟩, -, X304, hs304, hg304, ⟨Lc304, hQ304, l304, y304, z304⟩, st304⟩ := X296.virtualBackS hx (y := (⟨"com/example/blend2/blend2/FixedWindow", "decide", "(J)Lcom/example/blend2/blend2/Decision;"⟩ : MethodName)) (z := (⟨"com/example/blend2/blend2/FixedWindow", "decide", "(J)Lcom/example/blend2/blend2/Decision;"⟩ : MethodName)) ho296 (mvT hZ296 (hw _ (List.mem_of_getElem? (i := 75) rfl))) (mvT hZ296 (hw _ (List.mem_of_getElem? (i := 76) rfl))) (notFace_of_selects (args := #[]) (mvT hZ296 (hw _ (List.mem_of_getElem? (i := 78) rfl)))) (mvT hZ296 (hw _ (List.mem_of_getElem? (i := 78) rfl))) (mvT hZ296 (hw _ (List.mem_of_getElem? (i := 77) rfl))) (by decide) (backOfS (W := 0) (rmdec l Z a0 hw [] b166 t0 b167 w_Duration_ZERO ((sc.toInt64) * (1000 : Int64)) ((own_fd t0 ((sc.toInt64) * (1000 : Int64))) * ((sc.toInt64) * (1000 : Int64))) ad296 cp T296.heap n0 Z0_v297 S_Duration_ZERO_v298 E_Duration_ZERO_v299 F_Duration_ZERO_seconds_v300 A166_v301 A167_v302 Fc186_v303 Fr296 Fm296 Fs296 Fa296 (Ne.symm ne195) ne223 g_b166 hw1 ht1 ht2 hcp ⟨(by have := hb296.1; omega), hb296.2⟩) hZ296 (hw _ (List.mem_of_getElem? (i := 79) rfl)) (hw _ (List.mem_of_getElem? (i := 10) rfl)) (by decide) (by decide)) q304a q304c (g := (mkF m 150 (LS_JsJsIIJsJsIJsIIIJsJsRu q0 q1 p2 p3 q4 t0 sc ((sc.toInt64) * (1000 : Int64)) cp (3 : Int32) (1 : Int32) tp qq b166) [(.long t0), (.ref b166)])) rfl (by rw [hml]; rfl) (Steps.refl _) (argsL := [(.long t0)]) (rest := []) (lenOf pd__J_Lcom_example_blend2_blend2_Decision_ rfl) rfl (by show 2 * 0 + _ ≤ _; exact Nat.le_of_eq rfl) (hb hby at_150) (fun _ _ => ⟨rfl, rfl, (by decide : 37 + 9 ≤ _), (by decide : 428 + 97 ≤ _)⟩)
      dsimp only [Pt.U, Pt.locs, Pt.cells, Pt.slots] at X304 l304 y304 z304 st304 hQ304 hs304 hg304
      subst l304 y304 z304
      have hS304 : s.Since T304.vm T304.heap.size := foldS (s := s) (vm0 := T296.vm) (T := T296) (U := T304) hS296 hk296 hs304 hg304
      have hZ304 : Z.Warmed39 (s.setVm T304.vm).vm := State.Warmed39.trans (t := s.setVm T296.vm) hZ296 hs304.1
      have ho304 : (s.setVm T304.vm).vm.findClass "com/example/blend2/blend2/FixedWindowIsIdleAtPinLaw" = some m.cls := by rw [show (s.setVm T304.vm).vm = T304.vm from rfl, hs304.1.alike.findClass]; exact ho296
      obtain ⟨o304, ad304, rfl, N304q, K304, Fr304, Fm304, Fs304, Fa304, hb304⟩ := hQ304
      have N304 := Fr.app N296 N304q
      have hk304 : T304.heap.size ≤ T304.heap.size := Nat.le_refl _
      refine own_go (B := T304.setTop (mkF m 153 (LS_JsJsIIJsJsIJsIIIJsJsRu q0 q1 p2 p3 q4 t0 sc ((sc.toInt64) * (1000 : Int64)) cp (3 : Int32) (1 : Int32) tp qq b166) [(.ref o304)])) (fun t k => st304.trans k) ?_
      refine own_go (B := T304.setTop (mkF m 165 (LS_JsJsIIJsJsIJsIIIJsJsRu q0 q1 p2 p3 q4 t0 sc ((sc.toInt64) * (1000 : Int64)) cp (3 : Int32) (1 : Int32) tp qq b166) [(.long ((sc.toInt64) * (1000 : Int64))), (.long t0), (.long qq)])) (fun t k => ?_) ?_
      · refine XS.pop X304.here hx rfl (hb hby at_153) rfl rfl ?_
        refine XS.iload X304.here hx rfl (hb hby at_154) rfl ?_
        show Steps p.tables e below (T304.setTop (mkF m 156 (LS_JsJsIIJsJsIJsIIIJsJsRu q0 q1 p2 p3 q4 t0 sc ((sc.toInt64) * (1000 : Int64)) cp (3 : Int32) (1 : Int32) tp qq b166) [(.int (3 : Int32))])) _
        refine XS.ifNo X304.here hx rfl (hb hby at_156) rfl ((if0 _ _).trans (tlt (by decide : (0 : Int32) < (3 : Int32))).2.2.2) ?_
        refine XS.lload X304.here hx rfl (hb hby at_159) rfl ?_
        refine XS.lload X304.here hx rfl (hb hby at_161) rfl ?_
        show Steps p.tables e below (T304.setTop (mkF m 163 (LS_JsJsIIJsJsIJsIIIJsJsRu q0 q1 p2 p3 q4 t0 sc ((sc.toInt64) * (1000 : Int64)) cp (3 : Int32) (1 : Int32) tp qq b166) [(.long t0), (.long qq)])) _
        refine XS.lload X304.here hx rfl (hb hby at_163) rfl ?_
        exact k
      have Z0_v305 := Nat.le_trans Z0_v297 K304.1
      obtain ⟨_, _, ⟨T306, L306, k306, n306⟩, -, X306, ⟨Lc306, hQ306, l306, y306, z306⟩, st306⟩ := Jvm.LawKit.callS X304 hx (y := (⟨"com/example/blend2/blend2/FixedWindowIsIdleAtPinLaw", "windowEnd", "(JJ)J"⟩ : MethodName)) ho304 (mvT hZ304 (hw _ (List.mem_of_getElem? (i := 146) rfl))) (mvT hZ304 (hw _ (List.mem_of_getElem? (i := 147) rfl))) (mvT hZ304 (hw _ (List.mem_of_getElem? (i := 148) rfl))) (mvT hZ304 (hw _ (List.mem_of_getElem? (i := 149) rfl))) (by decide) (backOf (W := 2) (rmwen l Z a0 hw [] t0 ((sc.toInt64) * (1000 : Int64)) T304.heap n0 Z0_v305 (own_ne0 hw1)) hZ304 (hw _ (List.mem_of_getElem? (i := 149) rfl)) (hw _ (List.mem_of_getElem? (i := 148) rfl)) (by decide) (by decide)) (g := (mkF m 165 (LS_JsJsIIJsJsIJsIIIJsJsRu q0 q1 p2 p3 q4 t0 sc ((sc.toInt64) * (1000 : Int64)) cp (3 : Int32) (1 : Int32) tp qq b166) [(.long ((sc.toInt64) * (1000 : Int64))), (.long t0), (.long qq)])) rfl (by rw [hml]; rfl) (argsL := [(.long t0), (.long ((sc.toInt64) * (1000 : Int64)))]) (rest := [(.long qq)]) (lenOf pd__JJ_J rfl) rfl (by show 2 * 0 + _ ≤ _; exact Nat.le_of_eq rfl) (hb hby at_165) (fun _ _ => ⟨rfl, rfl, (by decide : 46 + 0 ≤ _), (by decide : 525 + 0 ≤ _)⟩)
      dsimp only [Pt.U, Pt.locs, Pt.cells, Pt.slots] at X306 l306 y306 z306 st306 hQ306
      subst l306 y306 z306
      obtain ⟨rfl, N306q, e306⟩ := hQ306
      have N306 := Fr.app N304 N306q
      refine own_go (B := T306.setTop (mkF m 168 (LS_JsJsIIJsJsIJsIIIJsJsRu q0 q1 p2 p3 q4 t0 sc ((sc.toInt64) * (1000 : Int64)) cp (3 : Int32) (1 : Int32) tp qq b166) [(.long (own_we t0 ((sc.toInt64) * (1000 : Int64)))), (.long qq)])) (fun t k => st306 _ k) ?_
      refine own_go (B := T306.setTop (mkF m 169 (LS_JsJsIIJsJsIJsIIIJsJsRu q0 q1 p2 p3 q4 t0 sc ((sc.toInt64) * (1000 : Int64)) cp (3 : Int32) (1 : Int32) tp qq b166) [(.int (lcmpW qq (own_we t0 ((sc.toInt64) * (1000 : Int64)))))])) (fun t k => ?_) ?_
      · refine XS.lcmp X306.here hx rfl (hb hby at_168) rfl ?_
        exact k
      by_cases hc169_307 : qq < (own_we t0 ((sc.toInt64) * (1000 : Int64)))
      · refine own_go (B := T306.setTop (mkF m 217 (LS_JsJsIIJsJsIJsIIIJsJsRI q0 q1 p2 p3 q4 t0 sc ((sc.toInt64) * (1000 : Int64)) cp (3 : Int32) (1 : Int32) tp qq b166 (0 : Int32)) [(.long qq), (.ref b166)])) (fun t k => ?_) ?_
        · refine XS.ifYes X306.here hx rfl (pc0 := 169) (pc' := 176) rfl (hb hby at_169) rfl ((if0 _ _).trans (tlt ((lw_lt qq (own_we t0 ((sc.toInt64) * (1000 : Int64)))).mpr hc169_307)).1) (by decide) (by decide) ?_
          refine XS.iconst X306.here hx rfl (hb hby at_176) ?_
          show Steps p.tables e below (T306.setTop (mkF m 177 (LS_JsJsIIJsJsIJsIIIJsJsRu q0 q1 p2 p3 q4 t0 sc ((sc.toInt64) * (1000 : Int64)) cp (3 : Int32) (1 : Int32) tp qq b166) [(.int (0 : Int32))])) _
          refine XS.istore X306.here hx rfl (hb hby at_177) rfl (l' := (LS_JsJsIIJsJsIJsIIIJsJsRI q0 q1 p2 p3 q4 t0 sc ((sc.toInt64) * (1000 : Int64)) cp (3 : Int32) (1 : Int32) tp qq b166 (0 : Int32))) rfl ?_
          refine XS.goto X306.here hx rfl (pc0 := 179) (pc' := 213) rfl (hb hby at_179) (by decide) (by decide) ?_
          refine XS.aload X306.here hx rfl (hb hby at_213) rfl rfl ?_
          show Steps p.tables e below (T306.setTop (mkF m 215 (LS_JsJsIIJsJsIJsIIIJsJsRI q0 q1 p2 p3 q4 t0 sc ((sc.toInt64) * (1000 : Int64)) cp (3 : Int32) (1 : Int32) tp qq b166 (0 : Int32)) [(.ref b166)])) _
          refine XS.lload X306.here hx rfl (hb hby at_215) rfl ?_
          exact k
        have A166_v309 := A166_v301.keep K304
        obtain ⟨cq308, kq308, q308a, q308b, q308c⟩ := isOf hZ304 e306 A166_v309
        obtain ⟨_, _, ⟨T308, L308, k308, n308⟩, -, X308, ⟨Lc308, hQ308, l308, y308, z308⟩, st308⟩ := X306.virtualBack hx (y := (⟨"com/example/blend2/blend2/FixedWindow", "isIdleAt", "(J)Z"⟩ : MethodName)) (z := (⟨"com/example/blend2/blend2/FixedWindow", "isIdleAt", "(J)Z"⟩ : MethodName)) ho304 (mvT hZ304 (hw _ (List.mem_of_getElem? (i := 150) rfl))) (mvT hZ304 (hw _ (List.mem_of_getElem? (i := 151) rfl))) (notFace_of_selects (args := #[]) (mvT hZ304 (hw _ (List.mem_of_getElem? (i := 153) rfl)))) (mvT hZ304 (hw _ (List.mem_of_getElem? (i := 153) rfl))) (mvT hZ304 (hw _ (List.mem_of_getElem? (i := 152) rfl))) (by decide) (backOf (W := 0) (rmidl l Z a0 hw [] b166 qq ((sc.toInt64) * (1000 : Int64)) ((own_fd t0 ((sc.toInt64) * (1000 : Int64))) * ((sc.toInt64) * (1000 : Int64))) ad304 T304.heap n0 Z0_v305 Fa304 Fs304 Fm304) hZ304 (hw _ (List.mem_of_getElem? (i := 154) rfl)) (hw _ (List.mem_of_getElem? (i := 10) rfl)) (by decide) (by decide)) q308a q308c (g := (mkF m 217 (LS_JsJsIIJsJsIJsIIIJsJsRI q0 q1 p2 p3 q4 t0 sc ((sc.toInt64) * (1000 : Int64)) cp (3 : Int32) (1 : Int32) tp qq b166 (0 : Int32)) [(.long qq), (.ref b166)])) rfl (by rw [hml]; rfl) (Steps.refl _) (argsL := [(.long qq)]) (rest := []) (lenOf pd__J_Z rfl) rfl (by show 2 * 0 + _ ≤ _; exact Nat.le_of_eq rfl) (hb hby at_217) (fun _ _ => ⟨rfl, e306, (by decide : 46 + 0 ≤ _), (by decide : 525 + 0 ≤ _)⟩)
        dsimp only [Pt.U, Pt.locs, Pt.cells, Pt.slots] at X308 l308 y308 z308 st308 hQ308
        subst l308 y308 z308
        obtain ⟨rfl, N308q, e308⟩ := hQ308
        have N308 := Fr.app N306 N308q
        refine own_go (B := T308.setTop (mkF m 220 (LS_JsJsIIJsJsIJsIIIJsJsRI q0 q1 p2 p3 q4 t0 sc ((sc.toInt64) * (1000 : Int64)) cp (3 : Int32) (1 : Int32) tp qq b166 (0 : Int32)) [(.int (if ad304 = (0 : Int32) then (1 : Int32) else if qq < (((own_fd t0 ((sc.toInt64) * (1000 : Int64))) * ((sc.toInt64) * (1000 : Int64))) + ((sc.toInt64) * (1000 : Int64))) then (0 : Int32) else (1 : Int32)))])) (fun t k => st308.trans k) ?_
        refine own_go (B := T308.setTop (mkF m 230 (LS_JsJsIIJsJsIJsIIIJsJsRI q0 q1 p2 p3 q4 t0 sc ((sc.toInt64) * (1000 : Int64)) cp (3 : Int32) (1 : Int32) tp qq b166 (0 : Int32)) [(.int (1 : Int32))])) (fun t k => ?_) ?_
        · refine XS.iload X308.here hx rfl (hb hby at_220) rfl ?_
          refine XS.icmpNo X308.here hx rfl (hb hby at_222) rfl (teq (own_fin (own_n0 hb304) (own_same hw1 ht1 ht2) hc169_307)).2 ?_
          show Steps p.tables e below (T308.setTop (mkF m 225 (LS_JsJsIIJsJsIJsIIIJsJsRI q0 q1 p2 p3 q4 t0 sc ((sc.toInt64) * (1000 : Int64)) cp (3 : Int32) (1 : Int32) tp qq b166 (0 : Int32)) [])) _
          refine XS.iconst X308.here hx rfl (hb hby at_225) ?_
          refine XS.goto X308.here hx rfl (pc0 := 226) (pc' := 230) rfl (hb hby at_226) (by decide) (by decide) ?_
          exact k
        obtain ⟨fs, hr, hrun, hended, hRW⟩ := Stand.leaveW (s := s) (vm₁ := T304.vm) X308 hS304 (by rw [e308]; exact hk304) (v := some (.int (1 : Int32))) (fun h => by rw [Bd.returns] at h; cases h)
        refine ⟨_, _, ?_, hrun, hended, _, _, rfl, ?_, hRW.1, hRW.2.1, hRW.2.2.1, hRW.2.2.2.mono (by decide) (by decide)⟩
        · show Steps p.tables e below (T308.setTop (mkF m 230 (LS_JsJsIIJsJsIJsIIIJsJsRI q0 q1 p2 p3 q4 t0 sc ((sc.toInt64) * (1000 : Int64)) cp (3 : Int32) (1 : Int32) tp qq b166 (0 : Int32)) [(.int (1 : Int32))])) _
          exact retN X308 hx (t := .boolean) Bd.returns (by simp) (hb hby at_230) hr
        · show Q0 Z q0 q1 p2 p3 q4 w_Algorithm_SLIDING_WINDOW_LOG w_StoreFailurePolicy_OPEN w_Duration_ZERO h0 n0 _ T308.heap _
          rw [e308]
          exact ⟨rfl, N308⟩
      · refine own_go (B := T306.setTop (mkF m 217 (LS_JsJsIIJsJsIJsIIIJsJsRI q0 q1 p2 p3 q4 t0 sc ((sc.toInt64) * (1000 : Int64)) cp (3 : Int32) (1 : Int32) tp qq b166 (1 : Int32)) [(.long qq), (.ref b166)])) (fun t k => ?_) ?_
        · refine XS.ifNo X306.here hx rfl (hb hby at_169) rfl ((if0 _ _).trans (flt (fun q => hc169_307 ((lw_lt qq (own_we t0 ((sc.toInt64) * (1000 : Int64)))).mp q))).1) ?_
          refine XS.iconst X306.here hx rfl (hb hby at_172) ?_
          show Steps p.tables e below (T306.setTop (mkF m 173 (LS_JsJsIIJsJsIJsIIIJsJsRu q0 q1 p2 p3 q4 t0 sc ((sc.toInt64) * (1000 : Int64)) cp (3 : Int32) (1 : Int32) tp qq b166) [(.int (1 : Int32))])) _
          refine XS.goto X306.here hx rfl (pc0 := 173) (pc' := 177) rfl (hb hby at_173) (by decide) (by decide) ?_
          refine XS.istore X306.here hx rfl (hb hby at_177) rfl (l' := (LS_JsJsIIJsJsIJsIIIJsJsRI q0 q1 p2 p3 q4 t0 sc ((sc.toInt64) * (1000 : Int64)) cp (3 : Int32) (1 : Int32) tp qq b166 (1 : Int32))) rfl ?_
          refine XS.goto X306.here hx rfl (pc0 := 179) (pc' := 213) rfl (hb hby at_179) (by decide) (by decide) ?_
          show Steps p.tables e below (T306.setTop (mkF m 213 (LS_JsJsIIJsJsIJsIIIJsJsRI q0 q1 p2 p3 q4 t0 sc ((sc.toInt64) * (1000 : Int64)) cp (3 : Int32) (1 : Int32) tp qq b166 (1 : Int32)) [])) _
          refine XS.aload X306.here hx rfl (hb hby at_213) rfl rfl ?_
          refine XS.lload X306.here hx rfl (hb hby at_215) rfl ?_
          exact k
        have A166_v311 := A166_v301.keep K304
        obtain ⟨cq310, kq310, q310a, q310b, q310c⟩ := isOf hZ304 e306 A166_v311
        obtain ⟨_, _, ⟨T310, L310, k310, n310⟩, -, X310, ⟨Lc310, hQ310, l310, y310, z310⟩, st310⟩ := X306.virtualBack hx (y := (⟨"com/example/blend2/blend2/FixedWindow", "isIdleAt", "(J)Z"⟩ : MethodName)) (z := (⟨"com/example/blend2/blend2/FixedWindow", "isIdleAt", "(J)Z"⟩ : MethodName)) ho304 (mvT hZ304 (hw _ (List.mem_of_getElem? (i := 150) rfl))) (mvT hZ304 (hw _ (List.mem_of_getElem? (i := 151) rfl))) (notFace_of_selects (args := #[]) (mvT hZ304 (hw _ (List.mem_of_getElem? (i := 153) rfl)))) (mvT hZ304 (hw _ (List.mem_of_getElem? (i := 153) rfl))) (mvT hZ304 (hw _ (List.mem_of_getElem? (i := 152) rfl))) (by decide) (backOf (W := 0) (rmidl l Z a0 hw [] b166 qq ((sc.toInt64) * (1000 : Int64)) ((own_fd t0 ((sc.toInt64) * (1000 : Int64))) * ((sc.toInt64) * (1000 : Int64))) ad304 T304.heap n0 Z0_v305 Fa304 Fs304 Fm304) hZ304 (hw _ (List.mem_of_getElem? (i := 154) rfl)) (hw _ (List.mem_of_getElem? (i := 10) rfl)) (by decide) (by decide)) q310a q310c (g := (mkF m 217 (LS_JsJsIIJsJsIJsIIIJsJsRI q0 q1 p2 p3 q4 t0 sc ((sc.toInt64) * (1000 : Int64)) cp (3 : Int32) (1 : Int32) tp qq b166 (1 : Int32)) [(.long qq), (.ref b166)])) rfl (by rw [hml]; rfl) (Steps.refl _) (argsL := [(.long qq)]) (rest := []) (lenOf pd__J_Z rfl) rfl (by show 2 * 0 + _ ≤ _; exact Nat.le_of_eq rfl) (hb hby at_217) (fun _ _ => ⟨rfl, e306, (by decide : 46 + 0 ≤ _), (by decide : 525 + 0 ≤ _)⟩)
        dsimp only [Pt.U, Pt.locs, Pt.cells, Pt.slots] at X310 l310 y310 z310 st310 hQ310
        subst l310 y310 z310
        obtain ⟨rfl, N310q, e310⟩ := hQ310
        have N310 := Fr.app N306 N310q
        refine own_go (B := T310.setTop (mkF m 220 (LS_JsJsIIJsJsIJsIIIJsJsRI q0 q1 p2 p3 q4 t0 sc ((sc.toInt64) * (1000 : Int64)) cp (3 : Int32) (1 : Int32) tp qq b166 (1 : Int32)) [(.int (if ad304 = (0 : Int32) then (1 : Int32) else if qq < (((own_fd t0 ((sc.toInt64) * (1000 : Int64))) * ((sc.toInt64) * (1000 : Int64))) + ((sc.toInt64) * (1000 : Int64))) then (0 : Int32) else (1 : Int32)))])) (fun t k => st310.trans k) ?_
        refine own_go (B := T310.setTop (mkF m 230 (LS_JsJsIIJsJsIJsIIIJsJsRI q0 q1 p2 p3 q4 t0 sc ((sc.toInt64) * (1000 : Int64)) cp (3 : Int32) (1 : Int32) tp qq b166 (1 : Int32)) [(.int (1 : Int32))])) (fun t k => ?_) ?_
        · refine XS.iload X310.here hx rfl (hb hby at_220) rfl ?_
          refine XS.icmpNo X310.here hx rfl (hb hby at_222) rfl (teq (own_fin2 (own_n0 hb304) (own_same hw1 ht1 ht2) hc169_307)).2 ?_
          show Steps p.tables e below (T310.setTop (mkF m 225 (LS_JsJsIIJsJsIJsIIIJsJsRI q0 q1 p2 p3 q4 t0 sc ((sc.toInt64) * (1000 : Int64)) cp (3 : Int32) (1 : Int32) tp qq b166 (1 : Int32)) [])) _
          refine XS.iconst X310.here hx rfl (hb hby at_225) ?_
          refine XS.goto X310.here hx rfl (pc0 := 226) (pc' := 230) rfl (hb hby at_226) (by decide) (by decide) ?_
          exact k
        obtain ⟨fs, hr, hrun, hended, hRW⟩ := Stand.leaveW (s := s) (vm₁ := T304.vm) X310 hS304 (by rw [e310]; exact hk304) (v := some (.int (1 : Int32))) (fun h => by rw [Bd.returns] at h; cases h)
        refine ⟨_, _, ?_, hrun, hended, _, _, rfl, ?_, hRW.1, hRW.2.1, hRW.2.2.1, hRW.2.2.2.mono (by decide) (by decide)⟩
        · show Steps p.tables e below (T310.setTop (mkF m 230 (LS_JsJsIIJsJsIJsIIIJsJsRI q0 q1 p2 p3 q4 t0 sc ((sc.toInt64) * (1000 : Int64)) cp (3 : Int32) (1 : Int32) tp qq b166 (1 : Int32)) [(.int (1 : Int32))])) _
          exact retN X310 hx (t := .boolean) Bd.returns (by simp) (hb hby at_230) hr
        · show Q0 Z q0 q1 p2 p3 q4 w_Algorithm_SLIDING_WINDOW_LOG w_StoreFailurePolicy_OPEN w_Duration_ZERO h0 n0 _ T310.heap _
          rw [e310]
          exact ⟨rfl, N310⟩
set_option maxRecDepth 65536 in
set_option maxHeartbeats 40000000 in
theorem comes_1 {Post : Tables → Env → Array Value → State → Outcome → State → Prop} (hpost : ∀ tb e args s v u, (limb_1_1.after args s (.returned v) u = true ∧ limb_1_2.after args s (.returned v) u = true ∧ True) → FramedW s (.returned v) u (Jvm.fieldLocs frame_1_writes args s ++ Jvm.arrayLocs frame_1_arrays args s ++ Jvm.staticLocs frame_1_statics s) 48 7360 → Post tb e args s (.returned v) u) :
    ArmFor flags0 classFile x code maxLocals ret World_1 tables_1 room_1 Calls_1 rest_1 Pre_1 Post := by
  intro l hfl _ _ p e ha hc hk s m args below hf hA hF happ hP
  obtain ⟨hcalls, hrest, hpre⟩ := hP
  obtain ⟨-, -, -, hnamed, -, -, -, hat⟩ := (Spec.applies_iff hf).mp happ
  obtain ⟨hg, hn⟩ := and_e (Cond.before_iff.mp (show (Jvm.Cond.and given_1 narrow_1).before args s = true from hpre))
  obtain ⟨g1, g2⟩ := and_e hg
  obtain ⟨g3, g4⟩ := and_e g2
  obtain ⟨g5, g6⟩ := and_e g4
  obtain ⟨g7, g8⟩ := and_e g6
  obtain ⟨g9, g10⟩ := and_e g8
  obtain ⟨w0, w1, w2, w3, w4, rfl⟩ : ∃ w0 w1 w2 w3 w4 : Value, args = #[w0, w1, w2, w3, w4] := by
    have hs : args.size = 5 := by simpa [Cond.value, given_1] using g1
    obtain ⟨L⟩ := args
    match L, hs with
    | [w0, w1, w2, w3, w4], _ => exact ⟨w0, w1, w2, w3, w4, rfl⟩
  have hw := fun d (hd : d ∈ tables_1) => atoms_spec (ws := Jvm.Cond.code x code maxLocals ret :: tables_1) hat d (List.mem_cons_of_mem _ hd)
  have hfit : Fit s := fun {y c} hc i hi => by
    obtain ⟨ha, rfl⟩ := Array.getElem?_eq_some_iff.mp hc
    have q := List.all_eq_true.mp ((Array.all_eq_true_iff_forall_mem.mp hF) _ (Array.getElem_mem ha)) i (List.mem_range.mpr hi)
    simpa [Array.getElem?_eq_getElem hi] using q
  obtain ⟨hsets, hown0⟩ := atoms_of _ (rest_1_c_eq ▸ (show rest_1_c.before _ s = true from hrest))
  have hr0 := Cond.before_iff.mp hown0
  obtain ⟨i0, ei0⟩ := isL_v g3
  obtain rfl : w0 = (.long i0) := Option.some.inj ei0
  obtain ⟨i1, ei1⟩ := isL_v g5
  obtain rfl : w1 = (.long i1) := Option.some.inj ei1
  obtain ⟨i2, ei2⟩ := is_v g7
  obtain rfl : w2 = (.int i2) := Option.some.inj ei2
  obtain ⟨i3, ei3⟩ := is_v g9
  obtain rfl : w3 = (.int i3) := Option.some.inj ei3
  obtain ⟨i4, ei4⟩ := isL_v g10
  obtain rfl : w4 = (.long i4) := Option.some.inj ei4
  obtain ⟨g11, g12⟩ := and_e hn
  obtain ⟨w_Algorithm_SLIDING_WINDOW_LOG, ev_Algorithm_SLIDING_WINDOW_LOG⟩ := exa_v g11
  have S_Algorithm_SLIDING_WINDOW_LOG : Sta s s.heap "com/example/blend2/blend2/Algorithm" "SLIDING_WINDOW_LOG" "Lcom/example/blend2/blend2/Algorithm;" (.ref w_Algorithm_SLIDING_WINDOW_LOG) := Sta.start ev_Algorithm_SLIDING_WINDOW_LOG (Or.inr ⟨(hw _ (List.mem_of_getElem? (i := 27) rfl)), (hw _ (List.mem_of_getElem? (i := 28) rfl))⟩)
  have E_Algorithm_SLIDING_WINDOW_LOG : Exa s s.heap w_Algorithm_SLIDING_WINDOW_LOG "com/example/blend2/blend2/Algorithm" := Exa.start ev_Algorithm_SLIDING_WINDOW_LOG g11
  obtain ⟨g13, g14⟩ := and_e g12
  have ev_Rule_DEFAULT_ALGORITHM := own_eqR g13 ev_Algorithm_SLIDING_WINDOW_LOG
  have S_Rule_DEFAULT_ALGORITHM : Sta s s.heap "com/example/blend2/blend2/Rule" "DEFAULT_ALGORITHM" "Lcom/example/blend2/blend2/Algorithm;" (.ref w_Algorithm_SLIDING_WINDOW_LOG) := Sta.start ev_Rule_DEFAULT_ALGORITHM (Or.inr ⟨(hw _ (List.mem_of_getElem? (i := 13) rfl)), (hw _ (List.mem_of_getElem? (i := 26) rfl))⟩)
  obtain ⟨g15, g16⟩ := and_e g14
  obtain ⟨w_StoreFailurePolicy_OPEN, ev_StoreFailurePolicy_OPEN⟩ := exa_v g15
  have S_StoreFailurePolicy_OPEN : Sta s s.heap "com/example/blend2/blend2/StoreFailurePolicy" "OPEN" "Lcom/example/blend2/blend2/StoreFailurePolicy;" (.ref w_StoreFailurePolicy_OPEN) := Sta.start ev_StoreFailurePolicy_OPEN (Or.inr ⟨(hw _ (List.mem_of_getElem? (i := 31) rfl)), (hw _ (List.mem_of_getElem? (i := 32) rfl))⟩)
  have E_StoreFailurePolicy_OPEN : Exa s s.heap w_StoreFailurePolicy_OPEN "com/example/blend2/blend2/StoreFailurePolicy" := Exa.start ev_StoreFailurePolicy_OPEN g15
  have ev_Rule_DEFAULT_STORE_FAILURE_POLICY := own_eqR g16 ev_StoreFailurePolicy_OPEN
  have S_Rule_DEFAULT_STORE_FAILURE_POLICY : Sta s s.heap "com/example/blend2/blend2/Rule" "DEFAULT_STORE_FAILURE_POLICY" "Lcom/example/blend2/blend2/StoreFailurePolicy;" (.ref w_StoreFailurePolicy_OPEN) := Sta.start ev_Rule_DEFAULT_STORE_FAILURE_POLICY (Or.inr ⟨(hw _ (List.mem_of_getElem? (i := 13) rfl)), (hw _ (List.mem_of_getElem? (i := 30) rfl))⟩)
  obtain ⟨w_Duration_ZERO, ev_Duration_ZERO⟩ := exa_v (Cond.before_iff.mp (hsets _ (List.mem_of_getElem? (i := 2) rfl)))
  have S_Duration_ZERO : Sta s s.heap "java/time/Duration" "ZERO" "Ljava/time/Duration;" (.ref w_Duration_ZERO) := Sta.start ev_Duration_ZERO (Or.inl (hsets _ (List.mem_of_getElem? (i := 1) rfl)))
  have E_Duration_ZERO : Exa s s.heap w_Duration_ZERO "java/time/Duration" := Exa.start ev_Duration_ZERO (Cond.before_iff.mp (hsets _ (List.mem_of_getElem? (i := 2) rfl)))
  have F_Duration_ZERO_seconds : Fld s s.heap w_Duration_ZERO "java/time/Duration" "seconds" "J" (.long (0 : Int64)) := Fld.start ((fld_at ev_Duration_ZERO).symm.trans (own_eqJ (Cond.before_iff.mp (hsets _ (List.mem_of_getElem? (i := 3) rfl)))))
  have F_Duration_ZERO_nanos : Fld s s.heap w_Duration_ZERO "java/time/Duration" "nanos" "I" (.int (0 : Int32)) := Fld.start ((fld_at ev_Duration_ZERO).symm.trans (own_eqI (Cond.before_iff.mp (hsets _ (List.mem_of_getElem? (i := 4) rfl)))))
  obtain ⟨n, o, h1, h2, h3, _, L, rfl, ⟨rfl, N⟩, hq⟩ := rm0 l s _ hw tables_1 i0 i1 i2 i3 i4 w_Algorithm_SLIDING_WINDOW_LOG w_StoreFailurePolicy_OPEN w_Duration_ZERO s.heap s.heap.size (Nat.le_refl _) S_Algorithm_SLIDING_WINDOW_LOG E_Algorithm_SLIDING_WINDOW_LOG S_StoreFailurePolicy_OPEN E_StoreFailurePolicy_OPEN S_Duration_ZERO E_Duration_ZERO S_Rule_DEFAULT_ALGORITHM S_Rule_DEFAULT_STORE_FAILURE_POLICY F_Duration_ZERO_seconds F_Duration_ZERO_nanos p e ha hc hk s m _ below hf ((Spec.applies_iff_loose hf).mp happ).1 ⟨rfl, State.Warmed39.refl s, rfl⟩ trivial
  refine ⟨n, _, h1, h2, h3, hpost _ _ _ _ _ _ ⟨Cond.after_iff.mpr rfl, Cond.after_iff.mpr (eq_i res_at (Term.int_eval (1)) rfl), trivial⟩ ⟨hq.1, hq.2.1, hq.2.2.1, (hq.2.2.2.sift fun y hy => Or.inr (N y hy)).mono (by decide) (by decide)⟩⟩
theorem main_1_1 : Claimed_1_1 := comes_1 fun _ _ _ _ _ _ h hF => ⟨h.1, hF⟩
theorem main_1_2 : Claimed_1_2 := comes_1 fun _ _ _ _ _ _ h hF => ⟨h.2.1, hF⟩
end Jvm.Pilot.@@N@@
namespace Jvm.Pilot.@@N@@
open Jvm Jvm.ClassFile Sem Op Lib Jvm.Free Jvm.Stand Jvm.Pilot.@@N@@.Jvm.D
/-! MADE BY PROGRAM (witnessworld.py) out of the Statement's table words and the real class files: 26 classes; the members and pool entries that the words name. The judged class is class 1, her method 2. -/
namespace start1
open Jvm.ClassFile
def u (s : String) : CpInfo := .utf8 (stringToUtf16 s)
/-- a pool by its gaps: so many unusable entries, then the entry; so many at the end -/
def gap : Nat → List CpInfo → List CpInfo
  | 0, r => r
  | n + 1, r => .unusable :: gap n r
def poolList (es : List (Nat × CpInfo)) (last : Nat) : List CpInfo := es.foldr (fun e r => gap e.1 (e.2 :: r)) (gap last [])
def pool (es : List (Nat × CpInfo)) (last : Nat) : Array CpInfo := ⟨poolList es last⟩
def fileOf (pool : Array CpInfo) (this : Nat) (attrs : Array Attribute := #[]) (ms : Array MethodInfo := #[]) (fl : Nat := 33) (sup : Nat := 0) (ifs : Array Nat := #[]) (fds : Array FieldInfo := #[]) : ClassFile where
  minorVersion := 0
  majorVersion := 65
  constantPool := pool
  accessFlags := fl
  thisClass := this
  superClass := sup
  interfaces := ifs
  fields := fds
  methods := ms
  attributes := attrs
def plain (name : String) (sup : Option ClassId) : Class where
  name := name
  kind := .ordinary
  loader := none
  accessFlags := 33
  super := sup
  interfaces := #[]
  cf := none
  fields := #[]
  methods := #[]
  instanceTypes := #[]
  staticTypes := #[]
  resolved := #[]
  callSites := []
  init := .initialized
  statics := none
  mirror := none

def pool0 : Array CpInfo := pool [(5, u "<init>"), (0, u "()V"), (1, .class_ 10), (1, u "java/lang/Object")] 113

def k0c0 : Code := { maxStack := 0, maxLocals := 1, code := object_method_1_code, exceptionTable := #[], attributes := #[] }
def k0m0 : Method := { name := "<init>", desc := "()V", sig := { parameters := [], returnType := none }, accessFlags := 1, code := some k0c0 }
/-- java/lang/Object -/
def k0 : Class := { plain "java/lang/Object" none with
  accessFlags := 33
  interfaces := #[]
  cf := some (fileOf pool0 8 #[] #[{ accessFlags := 1, nameIndex := 5, descriptorIndex := 6, attributes := #[] }] 33 0 #[] #[])
  fields := #[]
  methods := #[k0m0]
  instanceTypes := #[]
  staticTypes := #[]
  resolved := Array.replicate 124 none
  statics := none }

def pool1 : Array CpInfo := pool [(2, .class_ 4), (1, u "java/lang/Object"), (0, u "<init>"), (0, u "()V"), (0, .integer 2147483647), (0, .methodref 9 10), (0, .class_ 11), (0, .nameAndType 12 13), (0, u "java/lang/Math"), (0, u "max"), (0, u "(II)I"), (0, .long 1000), (1, .long 1099511627775), (1, .long 4398046511103), (1, .class_ 21), (0, u "com/example/blend2/blend2/FixedWindow"), (0, .class_ 23), (0, u "com/example/blend2/blend2/Rule"), (0, .string 25), (0, u "r"), (0, .methodref 22 27), (0, .nameAndType 5 28), (0, u "(Ljava/lang/String;II)V"), (0, .methodref 20 30), (0, .nameAndType 5 31), (0, u "(Lcom/example/blend2/blend2/Rule;)V"), (0, .methodref 20 33), (0, .nameAndType 34 35), (0, u "decide"), (0, u "(J)Lcom/example/blend2/blend2/Decision;"), (0, .methodref 37 38), (0, .class_ 39), (0, .nameAndType 40 41), (0, u "com/example/blend2/blend2/FixedWindowIsIdleAtPinLaw"), (0, u "windowEnd"), (0, u "(JJ)J"), (0, .methodref 20 43), (0, .nameAndType 44 45), (0, u "isIdleAt"), (0, u "(J)Z"), (3, u "law"), (0, u "(JJIIJ)Z")] 2

def k1m0 : Method := { name := "<init>", desc := "()V", sig := { parameters := [], returnType := none }, accessFlags := 1, code := none }
def k1c1 : Code := { maxStack := 4, maxLocals := 6, code := method_2_code, exceptionTable := #[], attributes := #[] }
def k1m1 : Method := { name := "windowEnd", desc := "(JJ)J", sig := { parameters := [.long, .long], returnType := some .long }, accessFlags := 10, code := some k1c1 }
def k1c2 : Code := { maxStack := 7, maxLocals := 22, code := code, exceptionTable := #[], attributes := #[] }
def k1m2 : Method := { name := "law", desc := "(JJIIJ)Z", sig := { parameters := [.long, .long, .int, .int, .long], returnType := some .boolean }, accessFlags := 9, code := some k1c2 }
/-- com/example/blend2/blend2/FixedWindowIsIdleAtPinLaw -/
def k1 : Class := { plain "com/example/blend2/blend2/FixedWindowIsIdleAtPinLaw" (some 0) with
  accessFlags := 49
  interfaces := #[]
  cf := some (fileOf pool1 37 #[] #[{ accessFlags := 1, nameIndex := 5, descriptorIndex := 6, attributes := #[] }, { accessFlags := 10, nameIndex := 40, descriptorIndex := 41, attributes := #[] }, { accessFlags := 9, nameIndex := 49, descriptorIndex := 50, attributes := #[] }] 49 2 #[] #[])
  fields := #[]
  methods := #[k1m0, k1m1, k1m2]
  instanceTypes := #[]
  staticTypes := #[]
  resolved := Array.replicate 53 none
  statics := none }

def pool2 : Array CpInfo := pool [(1, .class_ 2), (0, u "java/lang/Math"), (1, .class_ 6), (1, u "java/lang/Object"), (0, u "<init>"), (0, u "()V"), (89, .class_ 100), (1, u "java/lang/Math$RandomNumberGeneratorHolder"), (20, u "(JJ)J"), (23, u "floorDiv"), (26, u "negativeZeroFloatBits"), (0, u "J"), (2, u "negativeZeroDoubleBits"), (21, u "max"), (46, u "$assertionsDisabled"), (0, u "Z"), (88, u "(II)I"), (2, u "twoToTheDoubleScaleDown"), (0, u "D"), (4, u "twoToTheDoubleScaleUp"), (9, u "E"), (3, u "PI"), (2, u "TAU"), (2, u "DEGREES_TO_RADIANS"), (0, u "RADIANS_TO_DEGREES")] 94

def k2m0 : Method := { name := "<init>", desc := "()V", sig := { parameters := [], returnType := none }, accessFlags := 2, code := none }
def k2c1 : Code := { maxStack := 4, maxLocals := 6, code := jdk_29_method_49_code, exceptionTable := #[], attributes := #[] }
def k2m1 : Method := { name := "floorDiv", desc := "(JJ)J", sig := { parameters := [.long, .long], returnType := some .long }, accessFlags := 9, code := some k2c1 }
def k2c2 : Code := { maxStack := 2, maxLocals := 2, code := jdk_29_method_65_code, exceptionTable := #[], attributes := #[] }
def k2m2 : Method := { name := "max", desc := "(II)I", sig := { parameters := [.int, .int], returnType := some .int }, accessFlags := 9, code := some k2c2 }
/-- java/lang/Math -/
def k2 : Class := { plain "java/lang/Math" (some 0) with
  accessFlags := 49
  interfaces := #[]
  cf := some (fileOf pool2 1 #[.nestMembers #[98]] #[{ accessFlags := 2, nameIndex := 7, descriptorIndex := 8, attributes := #[] }, { accessFlags := 9, nameIndex := 145, descriptorIndex := 121, attributes := #[] }, { accessFlags := 9, nameIndex := 198, descriptorIndex := 335, attributes := #[] }] 49 4 #[] #[{ accessFlags := 25, nameIndex := 354, descriptorIndex := 339, attributes := #[] }, { accessFlags := 25, nameIndex := 358, descriptorIndex := 339, attributes := #[] }, { accessFlags := 25, nameIndex := 361, descriptorIndex := 339, attributes := #[] }, { accessFlags := 26, nameIndex := 364, descriptorIndex := 339, attributes := #[] }, { accessFlags := 26, nameIndex := 365, descriptorIndex := 339, attributes := #[] }, { accessFlags := 26, nameIndex := 172, descriptorIndex := 173, attributes := #[] }, { accessFlags := 26, nameIndex := 176, descriptorIndex := 173, attributes := #[] }, { accessFlags := 8, nameIndex := 344, descriptorIndex := 339, attributes := #[] }, { accessFlags := 8, nameIndex := 338, descriptorIndex := 339, attributes := #[] }, { accessFlags := 4120, nameIndex := 245, descriptorIndex := 246, attributes := #[] }])
  fields := #[{ name := "E", type := .double, accessFlags := 25, slot := 0, constantValue := 0 }, { name := "PI", type := .double, accessFlags := 25, slot := 1, constantValue := 0 }, { name := "TAU", type := .double, accessFlags := 25, slot := 2, constantValue := 0 }, { name := "DEGREES_TO_RADIANS", type := .double, accessFlags := 26, slot := 3, constantValue := 0 }, { name := "RADIANS_TO_DEGREES", type := .double, accessFlags := 26, slot := 4, constantValue := 0 }, { name := "negativeZeroFloatBits", type := .long, accessFlags := 26, slot := 5, constantValue := 0 }, { name := "negativeZeroDoubleBits", type := .long, accessFlags := 26, slot := 6, constantValue := 0 }, { name := "twoToTheDoubleScaleUp", type := .double, accessFlags := 8, slot := 7, constantValue := 0 }, { name := "twoToTheDoubleScaleDown", type := .double, accessFlags := 8, slot := 8, constantValue := 0 }, { name := "$assertionsDisabled", type := .boolean, accessFlags := 4120, slot := 9, constantValue := 0 }]
  methods := #[k2m0, k2m1, k2m2]
  instanceTypes := #[]
  staticTypes := #[.double, .double, .double, .double, .double, .long, .long, .double, .double, .boolean]
  resolved := Array.replicate 460 none
  statics := none }

def pool3 : Array CpInfo := pool [(1, .class_ 2), (0, u "com/example/blend2/blend2/KeyState"), (0, .class_ 4), (0, u "java/lang/Object")] 6

/-- com/example/blend2/blend2/KeyState -/
def k3 : Class := { plain "com/example/blend2/blend2/KeyState" (some 0) with
  accessFlags := 1536
  interfaces := #[]
  cf := some (fileOf pool3 1 #[] #[] 1536 3 #[] #[])
  fields := #[]
  methods := #[]
  instanceTypes := #[]
  staticTypes := #[]
  resolved := Array.replicate 11 none
  statics := none }

def pool4 : Array CpInfo := pool [(1, .methodref 2 3), (0, .class_ 4), (0, .nameAndType 5 6), (0, u "java/lang/Object"), (0, u "<init>"), (0, u "()V"), (0, .fieldref 8 9), (0, .class_ 10), (0, .nameAndType 11 12), (0, u "com/example/blend2/blend2/FixedWindow"), (0, u "rule"), (0, u "Lcom/example/blend2/blend2/Rule;"), (0, .methodref 14 15), (0, .class_ 16), (0, .nameAndType 17 18), (0, u "com/example/blend2/blend2/Rule"), (0, u "timeWindowSec"), (0, u "()I"), (0, .long 1000), (1, .fieldref 8 22), (0, .nameAndType 23 24), (0, u "windowMillis"), (0, u "J"), (0, .methodref 26 27), (0, .class_ 28), (0, .nameAndType 29 30), (0, u "java/lang/Math"), (0, u "floorDiv"), (0, u "(JJ)J"), (0, .fieldref 8 32), (0, .nameAndType 33 24), (0, u "windowStart"), (0, .fieldref 8 35), (0, .nameAndType 36 37), (0, u "admitted"), (0, u "I"), (0, .methodref 14 39), (0, .nameAndType 40 18), (0, u "capacity"), (0, .methodref 42 43), (0, .class_ 44), (0, .nameAndType 36 45), (0, u "com/example/blend2/blend2/Decision"), (0, u "(Lcom/example/blend2/blend2/Rule;I)Lcom/example/blend2/blend2/Decision;"), (0, .methodref 47 48), (0, .class_ 49), (0, .nameAndType 50 51), (0, u "java/time/Duration"), (0, u "ofMillis"), (0, u "(J)Ljava/time/Duration;"), (0, .methodref 42 53), (0, .nameAndType 54 55), (0, u "refused"), (0, u "(Lcom/example/blend2/blend2/Rule;Ljava/time/Duration;)Lcom/example/blend2/blend2/Decision;"), (0, .class_ 57), (0, u "com/example/blend2/blend2/KeyState"), (0, u "(Lcom/example/blend2/blend2/Rule;)V"), (2, u "decide"), (0, u "(J)Lcom/example/blend2/blend2/Decision;"), (1, u "isIdleAt"), (0, u "(J)Z")] 2

def k4c0 : Code := { maxStack := 5, maxLocals := 2, code := prog_4_method_1_code, exceptionTable := #[], attributes := #[] }
def k4m0 : Method := { name := "<init>", desc := "(Lcom/example/blend2/blend2/Rule;)V", sig := { parameters := [(.object "com/example/blend2/blend2/Rule")], returnType := none }, accessFlags := 0, code := some k4c0 }
def k4c1 : Code := { maxStack := 5, maxLocals := 8, code := prog_4_method_2_code, exceptionTable := #[], attributes := #[] }
def k4m1 : Method := { name := "decide", desc := "(J)Lcom/example/blend2/blend2/Decision;", sig := { parameters := [.long], returnType := some (.object "com/example/blend2/blend2/Decision") }, accessFlags := 1, code := some k4c1 }
def k4c2 : Code := { maxStack := 6, maxLocals := 3, code := prog_4_method_3_code, exceptionTable := #[], attributes := #[] }
def k4m2 : Method := { name := "isIdleAt", desc := "(J)Z", sig := { parameters := [.long], returnType := some .boolean }, accessFlags := 1, code := some k4c2 }
/-- com/example/blend2/blend2/FixedWindow -/
def k4 : Class := { plain "com/example/blend2/blend2/FixedWindow" (some 0) with
  accessFlags := 48
  interfaces := #[3]
  cf := some (fileOf pool4 8 #[] #[{ accessFlags := 0, nameIndex := 5, descriptorIndex := 58, attributes := #[] }, { accessFlags := 1, nameIndex := 61, descriptorIndex := 62, attributes := #[] }, { accessFlags := 1, nameIndex := 64, descriptorIndex := 65, attributes := #[] }] 48 2 #[56] #[{ accessFlags := 18, nameIndex := 11, descriptorIndex := 12, attributes := #[] }, { accessFlags := 18, nameIndex := 23, descriptorIndex := 24, attributes := #[] }, { accessFlags := 2, nameIndex := 33, descriptorIndex := 24, attributes := #[] }, { accessFlags := 2, nameIndex := 36, descriptorIndex := 37, attributes := #[] }])
  fields := #[{ name := "rule", type := (.object "com/example/blend2/blend2/Rule"), accessFlags := 18, slot := 0, constantValue := 0 }, { name := "windowMillis", type := .long, accessFlags := 18, slot := 1, constantValue := 0 }, { name := "windowStart", type := .long, accessFlags := 2, slot := 2, constantValue := 0 }, { name := "admitted", type := .int, accessFlags := 2, slot := 3, constantValue := 0 }]
  methods := #[k4m0, k4m1, k4m2]
  instanceTypes := #[(.object "com/example/blend2/blend2/Rule"), .long, .long, .int]
  staticTypes := #[]
  resolved := Array.replicate 68 none
  statics := none }

def pool5 : Array CpInfo := pool [(1, .methodref 2 3), (0, .class_ 4), (0, .nameAndType 5 6), (0, u "java/lang/Object"), (0, u "<init>"), (0, u "()V"), (0, .class_ 8), (0, u "java/lang/Record")] 13

def k5c0 : Code := { maxStack := 1, maxLocals := 1, code := jdk_30_method_1_code, exceptionTable := #[], attributes := #[] }
def k5m0 : Method := { name := "<init>", desc := "()V", sig := { parameters := [], returnType := none }, accessFlags := 4, code := some k5c0 }
/-- java/lang/Record -/
def k5 : Class := { plain "java/lang/Record" (some 0) with
  accessFlags := 1057
  interfaces := #[]
  cf := some (fileOf pool5 7 #[] #[{ accessFlags := 4, nameIndex := 5, descriptorIndex := 6, attributes := #[] }] 1057 2 #[] #[])
  fields := #[]
  methods := #[k5m0]
  instanceTypes := #[]
  staticTypes := #[]
  resolved := Array.replicate 22 none
  statics := none }

def pool6 : Array CpInfo := pool [(1, .methodref 2 3), (0, .class_ 4), (0, .nameAndType 5 6), (0, u "java/lang/Record"), (0, u "<init>"), (0, u "()V"), (0, .string 8), (0, u "name"), (0, .methodref 10 11), (0, .class_ 12), (0, .nameAndType 13 14), (0, u "java/util/Objects"), (0, u "requireNonNull"), (0, u "(Ljava/lang/Object;Ljava/lang/String;)Ljava/lang/Object;"), (0, .string 16), (0, u "algorithm"), (0, .string 18), (0, u "onStoreFailure"), (10, .fieldref 30 31), (0, .class_ 32), (0, .nameAndType 8 33), (0, u "com/example/blend2/blend2/Rule"), (0, u "Ljava/lang/String;"), (0, .fieldref 30 35), (0, .nameAndType 36 37), (0, u "capacity"), (0, u "I"), (0, .fieldref 30 39), (0, .nameAndType 40 37), (0, u "timeWindowSec"), (0, .fieldref 30 42), (0, .nameAndType 16 43), (0, u "Lcom/example/blend2/blend2/Algorithm;"), (0, .fieldref 30 45), (0, .nameAndType 18 46), (0, u "Lcom/example/blend2/blend2/StoreFailurePolicy;"), (0, .fieldref 30 48), (0, .nameAndType 49 43), (0, u "DEFAULT_ALGORITHM"), (0, .fieldref 30 51), (0, .nameAndType 52 46), (0, u "DEFAULT_STORE_FAILURE_POLICY"), (0, .methodref 30 54), (0, .nameAndType 5 55), (0, u "(Ljava/lang/String;IILcom/example/blend2/blend2/Algorithm;Lcom/example/blend2/blend2/StoreFailurePolicy;)V"), (22, u "CAPACITY"), (2, u "TIME_WINDOW_SEC"), (2, u "ALGORITHM"), (0, u "ON_STORE_FAILURE"), (8, u "(Ljava/lang/String;II)V"), (1, u "()I")] 38

def k6c0 : Code := { maxStack := 3, maxLocals := 6, code := prog_11_method_1_code, exceptionTable := #[], attributes := #[] }
def k6m0 : Method := { name := "<init>", desc := "(Ljava/lang/String;IILcom/example/blend2/blend2/Algorithm;Lcom/example/blend2/blend2/StoreFailurePolicy;)V", sig := { parameters := [(.object "java/lang/String"), .int, .int, (.object "com/example/blend2/blend2/Algorithm"), (.object "com/example/blend2/blend2/StoreFailurePolicy")], returnType := none }, accessFlags := 1, code := some k6c0 }
def k6c1 : Code := { maxStack := 6, maxLocals := 4, code := prog_11_method_2_code, exceptionTable := #[], attributes := #[] }
def k6m1 : Method := { name := "<init>", desc := "(Ljava/lang/String;II)V", sig := { parameters := [(.object "java/lang/String"), .int, .int], returnType := none }, accessFlags := 1, code := some k6c1 }
def k6c2 : Code := { maxStack := 1, maxLocals := 1, code := prog_11_method_7_code, exceptionTable := #[], attributes := #[] }
def k6m2 : Method := { name := "capacity", desc := "()I", sig := { parameters := [], returnType := some .int }, accessFlags := 1, code := some k6c2 }
def k6c3 : Code := { maxStack := 1, maxLocals := 1, code := prog_11_method_8_code, exceptionTable := #[], attributes := #[] }
def k6m3 : Method := { name := "timeWindowSec", desc := "()I", sig := { parameters := [], returnType := some .int }, accessFlags := 1, code := some k6c3 }
/-- com/example/blend2/blend2/Rule -/
def k6 : Class := { plain "com/example/blend2/blend2/Rule" (some 5) with
  accessFlags := 49
  interfaces := #[]
  cf := some (fileOf pool6 30 #[] #[{ accessFlags := 1, nameIndex := 5, descriptorIndex := 55, attributes := #[] }, { accessFlags := 1, nameIndex := 5, descriptorIndex := 94, attributes := #[] }, { accessFlags := 1, nameIndex := 36, descriptorIndex := 96, attributes := #[] }, { accessFlags := 1, nameIndex := 40, descriptorIndex := 96, attributes := #[] }] 49 2 #[] #[{ accessFlags := 18, nameIndex := 8, descriptorIndex := 33, attributes := #[] }, { accessFlags := 18, nameIndex := 36, descriptorIndex := 37, attributes := #[] }, { accessFlags := 18, nameIndex := 40, descriptorIndex := 37, attributes := #[] }, { accessFlags := 18, nameIndex := 16, descriptorIndex := 43, attributes := #[] }, { accessFlags := 18, nameIndex := 18, descriptorIndex := 46, attributes := #[] }, { accessFlags := 25, nameIndex := 49, descriptorIndex := 43, attributes := #[] }, { accessFlags := 25, nameIndex := 52, descriptorIndex := 46, attributes := #[] }, { accessFlags := 24, nameIndex := 78, descriptorIndex := 33, attributes := #[] }, { accessFlags := 24, nameIndex := 81, descriptorIndex := 33, attributes := #[] }, { accessFlags := 24, nameIndex := 84, descriptorIndex := 33, attributes := #[] }, { accessFlags := 24, nameIndex := 85, descriptorIndex := 33, attributes := #[] }])
  fields := #[{ name := "name", type := (.object "java/lang/String"), accessFlags := 18, slot := 0, constantValue := 0 }, { name := "capacity", type := .int, accessFlags := 18, slot := 1, constantValue := 0 }, { name := "timeWindowSec", type := .int, accessFlags := 18, slot := 2, constantValue := 0 }, { name := "algorithm", type := (.object "com/example/blend2/blend2/Algorithm"), accessFlags := 18, slot := 3, constantValue := 0 }, { name := "onStoreFailure", type := (.object "com/example/blend2/blend2/StoreFailurePolicy"), accessFlags := 18, slot := 4, constantValue := 0 }, { name := "DEFAULT_ALGORITHM", type := (.object "com/example/blend2/blend2/Algorithm"), accessFlags := 25, slot := 0, constantValue := 0 }, { name := "DEFAULT_STORE_FAILURE_POLICY", type := (.object "com/example/blend2/blend2/StoreFailurePolicy"), accessFlags := 25, slot := 1, constantValue := 0 }, { name := "CAPACITY", type := (.object "java/lang/String"), accessFlags := 24, slot := 2, constantValue := 0 }, { name := "TIME_WINDOW_SEC", type := (.object "java/lang/String"), accessFlags := 24, slot := 3, constantValue := 0 }, { name := "ALGORITHM", type := (.object "java/lang/String"), accessFlags := 24, slot := 4, constantValue := 0 }, { name := "ON_STORE_FAILURE", type := (.object "java/lang/String"), accessFlags := 24, slot := 5, constantValue := 0 }]
  methods := #[k6m0, k6m1, k6m2, k6m3]
  instanceTypes := #[(.object "java/lang/String"), .int, .int, (.object "com/example/blend2/blend2/Algorithm"), (.object "com/example/blend2/blend2/StoreFailurePolicy")]
  staticTypes := #[(.object "com/example/blend2/blend2/Algorithm"), (.object "com/example/blend2/blend2/StoreFailurePolicy"), (.object "java/lang/String"), (.object "java/lang/String"), (.object "java/lang/String"), (.object "java/lang/String")]
  resolved := Array.replicate 135 none
  statics := some 0 }

def pool7 : Array CpInfo := pool [(1, .class_ 2), (0, u "java/io/Serializable"), (0, .class_ 4), (0, u "java/lang/Object")] 2

/-- java/io/Serializable -/
def k7 : Class := { plain "java/io/Serializable" (some 0) with
  accessFlags := 1537
  interfaces := #[]
  cf := some (fileOf pool7 1 #[] #[] 1537 3 #[] #[])
  fields := #[]
  methods := #[]
  instanceTypes := #[]
  staticTypes := #[]
  resolved := Array.replicate 7 none
  statics := none }

def pool8 : Array CpInfo := pool [(1, .class_ 2), (0, u "java/lang/Comparable"), (0, .class_ 4), (0, u "java/lang/Object")] 7

/-- java/lang/Comparable -/
def k8 : Class := { plain "java/lang/Comparable" (some 0) with
  accessFlags := 1537
  interfaces := #[]
  cf := some (fileOf pool8 1 #[] #[] 1537 3 #[] #[])
  fields := #[]
  methods := #[]
  instanceTypes := #[]
  staticTypes := #[]
  resolved := Array.replicate 12 none
  statics := none }

def pool9 : Array CpInfo := pool [(2, .class_ 4), (1, u "java/lang/CharSequence"), (42, .class_ 48), (0, u "java/lang/CharSequence$1CodePointIterator"), (10, .class_ 60), (0, u "java/lang/CharSequence$1CharIterator"), (5, .class_ 67), (0, u "java/lang/Object")] 63

/-- java/lang/CharSequence -/
def k9 : Class := { plain "java/lang/CharSequence" (some 0) with
  accessFlags := 1537
  interfaces := #[]
  cf := some (fileOf pool9 2 #[.nestMembers #[47, 59]] #[] 1537 66 #[] #[])
  fields := #[]
  methods := #[]
  instanceTypes := #[]
  staticTypes := #[]
  resolved := Array.replicate 131 none
  statics := none }

def pool10 : Array CpInfo := pool [(1, .class_ 2), (0, u "java/lang/constant/Constable"), (0, .class_ 4), (0, u "java/lang/Object")] 6

/-- java/lang/constant/Constable -/
def k10 : Class := { plain "java/lang/constant/Constable" (some 0) with
  accessFlags := 1537
  interfaces := #[]
  cf := some (fileOf pool10 1 #[] #[] 1537 3 #[] #[])
  fields := #[]
  methods := #[]
  instanceTypes := #[]
  staticTypes := #[]
  resolved := Array.replicate 11 none
  statics := none }

def pool11 : Array CpInfo := pool [(1, .class_ 2), (0, u "java/lang/constant/ConstantDesc"), (0, .class_ 4), (0, u "java/lang/Object")] 32

/-- java/lang/constant/ConstantDesc -/
def k11 : Class := { plain "java/lang/constant/ConstantDesc" (some 0) with
  accessFlags := 1537
  interfaces := #[]
  cf := some (fileOf pool11 1 #[] #[] 1537 3 #[] #[])
  fields := #[]
  methods := #[]
  instanceTypes := #[]
  staticTypes := #[]
  resolved := Array.replicate 37 none
  statics := none }

def pool12 : Array CpInfo := pool [(2, .class_ 4), (1, u "java/lang/Object"), (0, u "<init>"), (0, u "()V"), (3, .class_ 12), (1, u "java/lang/String"), (0, u "value"), (0, u "[B"), (2, u "coder"), (0, u "B"), (2, u "hash"), (0, u "I"), (2, u "hashIsZero"), (0, u "Z"), (13, u "COMPACT_STRINGS"), (534, .class_ 576), (0, u "java/lang/CharSequence"), (22, u "CASE_INSENSITIVE_ORDER"), (0, u "Ljava/util/Comparator;"), (500, u "serialPersistentFields"), (0, u "[Ljava/io/ObjectStreamField;"), (0, .class_ 1104), (0, u "java/lang/String$CaseInsensitiveComparator"), (1, .class_ 1107), (0, u "java/io/Serializable"), (0, .class_ 1109), (0, u "java/lang/Comparable"), (0, .class_ 1111), (0, u "java/lang/constant/Constable"), (0, .class_ 1113), (0, u "java/lang/constant/ConstantDesc"), (2, u "serialVersionUID"), (0, u "J"), (3, u "REPL"), (0, u "C"), (2, u "LATIN1"), (1, u "UTF16")] 323

def k12m0 : Method := { name := "<init>", desc := "()V", sig := { parameters := [], returnType := none }, accessFlags := 1, code := none }
/-- java/lang/String -/
def k12 : Class := { plain "java/lang/String" (some 0) with
  accessFlags := 49
  interfaces := #[7, 8, 9, 10, 11]
  cf := some (fileOf pool12 10 #[.nestMembers #[1103]] #[{ accessFlags := 1, nameIndex := 5, descriptorIndex := 6, attributes := #[] }] 49 2 #[1106, 1108, 575, 1110, 1112] #[{ accessFlags := 18, nameIndex := 13, descriptorIndex := 14, attributes := #[] }, { accessFlags := 18, nameIndex := 17, descriptorIndex := 18, attributes := #[] }, { accessFlags := 2, nameIndex := 21, descriptorIndex := 22, attributes := #[] }, { accessFlags := 2, nameIndex := 25, descriptorIndex := 26, attributes := #[] }, { accessFlags := 26, nameIndex := 1116, descriptorIndex := 1117, attributes := #[] }, { accessFlags := 24, nameIndex := 40, descriptorIndex := 26, attributes := #[] }, { accessFlags := 26, nameIndex := 1101, descriptorIndex := 1102, attributes := #[] }, { accessFlags := 26, nameIndex := 1121, descriptorIndex := 1122, attributes := #[] }, { accessFlags := 25, nameIndex := 599, descriptorIndex := 600, attributes := #[] }, { accessFlags := 24, nameIndex := 1125, descriptorIndex := 18, attributes := #[] }, { accessFlags := 24, nameIndex := 1127, descriptorIndex := 18, attributes := #[] }])
  fields := #[{ name := "value", type := (.array .byte), accessFlags := 18, slot := 0, constantValue := 0 }, { name := "coder", type := .byte, accessFlags := 18, slot := 1, constantValue := 0 }, { name := "hash", type := .int, accessFlags := 2, slot := 2, constantValue := 0 }, { name := "hashIsZero", type := .boolean, accessFlags := 2, slot := 3, constantValue := 0 }, { name := "serialVersionUID", type := .long, accessFlags := 26, slot := 0, constantValue := 0 }, { name := "COMPACT_STRINGS", type := .boolean, accessFlags := 24, slot := 1, constantValue := 0 }, { name := "serialPersistentFields", type := (.array (.object "java/io/ObjectStreamField")), accessFlags := 26, slot := 2, constantValue := 0 }, { name := "REPL", type := .char, accessFlags := 26, slot := 3, constantValue := 0 }, { name := "CASE_INSENSITIVE_ORDER", type := (.object "java/util/Comparator"), accessFlags := 25, slot := 4, constantValue := 0 }, { name := "LATIN1", type := .byte, accessFlags := 24, slot := 5, constantValue := 0 }, { name := "UTF16", type := .byte, accessFlags := 24, slot := 6, constantValue := 0 }]
  methods := #[k12m0]
  instanceTypes := #[(.array .byte), .byte, .int, .boolean]
  staticTypes := #[.long, .boolean, (.array (.object "java/io/ObjectStreamField")), .char, (.object "java/util/Comparator"), .byte, .byte]
  resolved := Array.replicate 1451 none
  statics := none }

def pool13 : Array CpInfo := pool [(2, .class_ 4), (1, u "java/lang/Enum"), (0, u "name"), (0, u "Ljava/lang/String;"), (2, u "ordinal"), (0, u "I"), (1, .class_ 14), (1, u "java/lang/Object"), (4, u "hash"), (86, .class_ 108), (1, u "java/lang/Enum$EnumDesc"), (2, .class_ 112), (0, u "java/lang/constant/Constable"), (0, .class_ 114), (0, u "java/lang/Comparable"), (0, .class_ 116), (0, u "java/io/Serializable")] 87

/-- java/lang/Enum -/
def k13 : Class := { plain "java/lang/Enum" (some 0) with
  accessFlags := 1057
  interfaces := #[10, 8, 7]
  cf := some (fileOf pool13 2 #[.nestMembers #[106]] #[] 1057 12 #[111, 113, 115] #[{ accessFlags := 18, nameIndex := 5, descriptorIndex := 6, attributes := #[] }, { accessFlags := 18, nameIndex := 9, descriptorIndex := 10, attributes := #[] }, { accessFlags := 2, nameIndex := 19, descriptorIndex := 10, attributes := #[] }])
  fields := #[{ name := "name", type := (.object "java/lang/String"), accessFlags := 18, slot := 0, constantValue := 0 }, { name := "ordinal", type := .int, accessFlags := 18, slot := 1, constantValue := 0 }, { name := "hash", type := .int, accessFlags := 2, slot := 2, constantValue := 0 }]
  methods := #[]
  instanceTypes := #[(.object "java/lang/String"), .int, .int]
  staticTypes := #[]
  resolved := Array.replicate 204 none
  statics := none }

def pool14 : Array CpInfo := pool [(1, .class_ 2), (0, u "com/example/blend2/blend2/Algorithm"), (2, u "SLIDING_WINDOW_LOG"), (0, u "Lcom/example/blend2/blend2/Algorithm;"), (2, u "FIXED_WINDOW"), (2, u "SLIDING_WINDOW_COUNTER"), (2, u "TOKEN_BUCKET"), (2, u "LEAKY_BUCKET"), (2, u "$VALUES"), (0, u "[Lcom/example/blend2/blend2/Algorithm;"), (6, .class_ 31), (1, u "java/lang/Enum")] 27

/-- com/example/blend2/blend2/Algorithm -/
def k14 : Class := { plain "com/example/blend2/blend2/Algorithm" (some 13) with
  accessFlags := 16433
  interfaces := #[]
  cf := some (fileOf pool14 1 #[] #[] 16433 29 #[] #[{ accessFlags := 16409, nameIndex := 5, descriptorIndex := 6, attributes := #[] }, { accessFlags := 16409, nameIndex := 9, descriptorIndex := 6, attributes := #[] }, { accessFlags := 16409, nameIndex := 12, descriptorIndex := 6, attributes := #[] }, { accessFlags := 16409, nameIndex := 15, descriptorIndex := 6, attributes := #[] }, { accessFlags := 16409, nameIndex := 18, descriptorIndex := 6, attributes := #[] }, { accessFlags := 4122, nameIndex := 21, descriptorIndex := 22, attributes := #[] }])
  fields := #[{ name := "SLIDING_WINDOW_LOG", type := (.object "com/example/blend2/blend2/Algorithm"), accessFlags := 16409, slot := 0, constantValue := 0 }, { name := "FIXED_WINDOW", type := (.object "com/example/blend2/blend2/Algorithm"), accessFlags := 16409, slot := 1, constantValue := 0 }, { name := "SLIDING_WINDOW_COUNTER", type := (.object "com/example/blend2/blend2/Algorithm"), accessFlags := 16409, slot := 2, constantValue := 0 }, { name := "TOKEN_BUCKET", type := (.object "com/example/blend2/blend2/Algorithm"), accessFlags := 16409, slot := 3, constantValue := 0 }, { name := "LEAKY_BUCKET", type := (.object "com/example/blend2/blend2/Algorithm"), accessFlags := 16409, slot := 4, constantValue := 0 }, { name := "$VALUES", type := (.array (.object "com/example/blend2/blend2/Algorithm")), accessFlags := 4122, slot := 5, constantValue := 0 }]
  methods := #[]
  instanceTypes := #[(.object "java/lang/String"), .int, .int]
  staticTypes := #[(.object "com/example/blend2/blend2/Algorithm"), (.object "com/example/blend2/blend2/Algorithm"), (.object "com/example/blend2/blend2/Algorithm"), (.object "com/example/blend2/blend2/Algorithm"), (.object "com/example/blend2/blend2/Algorithm"), (.array (.object "com/example/blend2/blend2/Algorithm"))]
  resolved := Array.replicate 59 none
  statics := some 1 }

def pool15 : Array CpInfo := pool [(1, .class_ 2), (0, u "com/example/blend2/blend2/StoreFailurePolicy"), (2, u "OPEN"), (0, u "Lcom/example/blend2/blend2/StoreFailurePolicy;"), (2, u "CLOSED"), (2, u "$VALUES"), (0, u "[Lcom/example/blend2/blend2/StoreFailurePolicy;"), (6, .class_ 22), (1, u "java/lang/Enum")] 24

/-- com/example/blend2/blend2/StoreFailurePolicy -/
def k15 : Class := { plain "com/example/blend2/blend2/StoreFailurePolicy" (some 13) with
  accessFlags := 16433
  interfaces := #[]
  cf := some (fileOf pool15 1 #[] #[] 16433 20 #[] #[{ accessFlags := 16409, nameIndex := 5, descriptorIndex := 6, attributes := #[] }, { accessFlags := 16409, nameIndex := 9, descriptorIndex := 6, attributes := #[] }, { accessFlags := 4122, nameIndex := 12, descriptorIndex := 13, attributes := #[] }])
  fields := #[{ name := "OPEN", type := (.object "com/example/blend2/blend2/StoreFailurePolicy"), accessFlags := 16409, slot := 0, constantValue := 0 }, { name := "CLOSED", type := (.object "com/example/blend2/blend2/StoreFailurePolicy"), accessFlags := 16409, slot := 1, constantValue := 0 }, { name := "$VALUES", type := (.array (.object "com/example/blend2/blend2/StoreFailurePolicy")), accessFlags := 4122, slot := 2, constantValue := 0 }]
  methods := #[]
  instanceTypes := #[(.object "java/lang/String"), .int, .int]
  staticTypes := #[(.object "com/example/blend2/blend2/StoreFailurePolicy"), (.object "com/example/blend2/blend2/StoreFailurePolicy"), (.array (.object "com/example/blend2/blend2/StoreFailurePolicy"))]
  resolved := Array.replicate 47 none
  statics := some 2 }

def pool16 : Array CpInfo := pool [(2, .class_ 4), (1, u "java/lang/Object"), (0, u "<init>"), (0, u "()V"), (35, .class_ 44), (1, u "java/util/Objects"), (0, u "requireNonNull"), (0, u "(Ljava/lang/Object;)Ljava/lang/Object;"), (47, u "(Ljava/lang/Object;Ljava/lang/String;)Ljava/lang/Object;")] 89

def k16m0 : Method := { name := "<init>", desc := "()V", sig := { parameters := [], returnType := none }, accessFlags := 2, code := none }
def k16c1 : Code := { maxStack := 2, maxLocals := 1, code := jdk_31_method_10_code, exceptionTable := #[], attributes := #[] }
def k16m1 : Method := { name := "requireNonNull", desc := "(Ljava/lang/Object;)Ljava/lang/Object;", sig := { parameters := [(.object "java/lang/Object")], returnType := some (.object "java/lang/Object") }, accessFlags := 9, code := some k16c1 }
def k16c2 : Code := { maxStack := 3, maxLocals := 2, code := jdk_31_method_11_code, exceptionTable := #[], attributes := #[] }
def k16m2 : Method := { name := "requireNonNull", desc := "(Ljava/lang/Object;Ljava/lang/String;)Ljava/lang/Object;", sig := { parameters := [(.object "java/lang/Object"), (.object "java/lang/String")], returnType := some (.object "java/lang/Object") }, accessFlags := 9, code := some k16c2 }
/-- java/util/Objects -/
def k16 : Class := { plain "java/util/Objects" (some 0) with
  accessFlags := 49
  interfaces := #[]
  cf := some (fileOf pool16 42 #[] #[{ accessFlags := 2, nameIndex := 5, descriptorIndex := 6, attributes := #[] }, { accessFlags := 9, nameIndex := 45, descriptorIndex := 46, attributes := #[] }, { accessFlags := 9, nameIndex := 45, descriptorIndex := 94, attributes := #[] }] 49 2 #[] #[])
  fields := #[]
  methods := #[k16m0, k16m1, k16m2]
  instanceTypes := #[]
  staticTypes := #[]
  resolved := Array.replicate 184 none
  statics := none }

def pool17 : Array CpInfo := pool [(1, .methodref 2 3), (0, .class_ 4), (0, .nameAndType 5 6), (0, u "java/lang/Record"), (0, u "<init>"), (0, u "()V"), (0, .string 8), (0, u "rule"), (0, .methodref 10 11), (0, .class_ 12), (0, .nameAndType 13 14), (0, u "java/util/Objects"), (0, u "requireNonNull"), (0, u "(Ljava/lang/Object;Ljava/lang/String;)Ljava/lang/Object;"), (0, .string 16), (0, u "retryAfter"), (0, .string 18), (0, u "delay"), (9, .methodref 29 30), (0, .class_ 31), (0, .nameAndType 32 33), (0, u "java/time/Duration"), (0, u "isNegative"), (0, u "()Z"), (10, .fieldref 45 46), (0, .class_ 47), (0, .nameAndType 48 49), (0, u "com/example/blend2/blend2/Decision"), (0, u "allowed"), (0, u "Z"), (0, .fieldref 45 51), (0, .nameAndType 8 52), (0, u "Ljava/util/Optional;"), (0, .fieldref 45 54), (0, .nameAndType 55 56), (0, u "remaining"), (0, u "I"), (0, .fieldref 45 58), (0, .nameAndType 16 59), (0, u "Ljava/time/Duration;"), (0, .fieldref 45 61), (0, .nameAndType 18 59), (0, .fieldref 45 63), (0, .nameAndType 64 49), (0, u "degraded"), (1, .class_ 68), (1, u "java/util/Optional"), (5, .fieldref 29 75), (0, .nameAndType 76 59), (0, u "ZERO"), (0, .methodref 45 78), (0, .nameAndType 5 79), (0, u "(ZLjava/util/Optional;ILjava/time/Duration;Ljava/time/Duration;Z)V"), (0, .methodref 45 81), (0, .nameAndType 82 83), (0, u "admitted"), (0, u "(Lcom/example/blend2/blend2/Rule;ILjava/time/Duration;)Lcom/example/blend2/blend2/Decision;"), (0, .methodref 66 85), (0, .nameAndType 86 87), (0, u "of"), (0, u "(Ljava/lang/Object;)Ljava/util/Optional;"), (14, u "DEGRADED_RETRY_AFTER"), (25, u "(Lcom/example/blend2/blend2/Rule;I)Lcom/example/blend2/blend2/Decision;"), (0, u "refused"), (0, u "(Lcom/example/blend2/blend2/Rule;Ljava/time/Duration;)Lcom/example/blend2/blend2/Decision;")] 44

def k17c0 : Code := { maxStack := 3, maxLocals := 7, code := prog_2_method_1_code, exceptionTable := #[], attributes := #[] }
def k17m0 : Method := { name := "<init>", desc := "(ZLjava/util/Optional;ILjava/time/Duration;Ljava/time/Duration;Z)V", sig := { parameters := [.boolean, (.object "java/util/Optional"), .int, (.object "java/time/Duration"), (.object "java/time/Duration"), .boolean], returnType := none }, accessFlags := 1, code := some k17c0 }
def k17c1 : Code := { maxStack := 3, maxLocals := 2, code := prog_2_method_3_code, exceptionTable := #[], attributes := #[] }
def k17m1 : Method := { name := "admitted", desc := "(Lcom/example/blend2/blend2/Rule;I)Lcom/example/blend2/blend2/Decision;", sig := { parameters := [(.object "com/example/blend2/blend2/Rule"), .int], returnType := some (.object "com/example/blend2/blend2/Decision") }, accessFlags := 9, code := some k17c1 }
def k17c2 : Code := { maxStack := 8, maxLocals := 3, code := prog_2_method_4_code, exceptionTable := #[], attributes := #[] }
def k17m2 : Method := { name := "admitted", desc := "(Lcom/example/blend2/blend2/Rule;ILjava/time/Duration;)Lcom/example/blend2/blend2/Decision;", sig := { parameters := [(.object "com/example/blend2/blend2/Rule"), .int, (.object "java/time/Duration")], returnType := some (.object "com/example/blend2/blend2/Decision") }, accessFlags := 9, code := some k17c2 }
def k17c3 : Code := { maxStack := 8, maxLocals := 2, code := prog_2_method_5_code, exceptionTable := #[], attributes := #[] }
def k17m3 : Method := { name := "refused", desc := "(Lcom/example/blend2/blend2/Rule;Ljava/time/Duration;)Lcom/example/blend2/blend2/Decision;", sig := { parameters := [(.object "com/example/blend2/blend2/Rule"), (.object "java/time/Duration")], returnType := some (.object "com/example/blend2/blend2/Decision") }, accessFlags := 9, code := some k17c3 }
/-- com/example/blend2/blend2/Decision -/
def k17 : Class := { plain "com/example/blend2/blend2/Decision" (some 5) with
  accessFlags := 49
  interfaces := #[]
  cf := some (fileOf pool17 45 #[] #[{ accessFlags := 1, nameIndex := 5, descriptorIndex := 79, attributes := #[] }, { accessFlags := 9, nameIndex := 82, descriptorIndex := 128, attributes := #[] }, { accessFlags := 9, nameIndex := 82, descriptorIndex := 83, attributes := #[] }, { accessFlags := 9, nameIndex := 129, descriptorIndex := 130, attributes := #[] }] 49 2 #[] #[{ accessFlags := 18, nameIndex := 48, descriptorIndex := 49, attributes := #[] }, { accessFlags := 18, nameIndex := 8, descriptorIndex := 52, attributes := #[] }, { accessFlags := 18, nameIndex := 55, descriptorIndex := 56, attributes := #[] }, { accessFlags := 18, nameIndex := 16, descriptorIndex := 59, attributes := #[] }, { accessFlags := 18, nameIndex := 18, descriptorIndex := 59, attributes := #[] }, { accessFlags := 18, nameIndex := 64, descriptorIndex := 49, attributes := #[] }, { accessFlags := 26, nameIndex := 102, descriptorIndex := 59, attributes := #[] }])
  fields := #[{ name := "allowed", type := .boolean, accessFlags := 18, slot := 0, constantValue := 0 }, { name := "rule", type := (.object "java/util/Optional"), accessFlags := 18, slot := 1, constantValue := 0 }, { name := "remaining", type := .int, accessFlags := 18, slot := 2, constantValue := 0 }, { name := "retryAfter", type := (.object "java/time/Duration"), accessFlags := 18, slot := 3, constantValue := 0 }, { name := "delay", type := (.object "java/time/Duration"), accessFlags := 18, slot := 4, constantValue := 0 }, { name := "degraded", type := .boolean, accessFlags := 18, slot := 5, constantValue := 0 }, { name := "DEGRADED_RETRY_AFTER", type := (.object "java/time/Duration"), accessFlags := 26, slot := 0, constantValue := 0 }]
  methods := #[k17m0, k17m1, k17m2, k17m3]
  instanceTypes := #[.boolean, (.object "java/util/Optional"), .int, (.object "java/time/Duration"), (.object "java/time/Duration"), .boolean]
  staticTypes := #[(.object "java/time/Duration")]
  resolved := Array.replicate 175 none
  statics := none }

def pool18 : Array CpInfo := pool [(1, .class_ 2), (0, u "java/time/temporal/TemporalAmount"), (0, .class_ 4), (0, u "java/lang/Object")] 11

/-- java/time/temporal/TemporalAmount -/
def k18 : Class := { plain "java/time/temporal/TemporalAmount" (some 0) with
  accessFlags := 1537
  interfaces := #[]
  cf := some (fileOf pool18 1 #[] #[] 1537 3 #[] #[])
  fields := #[]
  methods := #[]
  instanceTypes := #[]
  staticTypes := #[]
  resolved := Array.replicate 16 none
  statics := none }

def pool19 : Array CpInfo := pool [(10, .methodref 11 12), (0, .class_ 13), (0, .nameAndType 14 15), (0, u "java/time/Duration"), (0, u "create"), (0, u "(JI)Ljava/time/Duration;"), (12, .long 1000), (1, .integer 1000000), (3, u "ZERO"), (0, u "Ljava/time/Duration;"), (13, .class_ 51), (1, u "java/time/temporal/TemporalAmount"), (13, u "()Z"), (13, .class_ 81), (1, u "java/time/Duration$Lazy"), (35, u "seconds"), (21, u "<init>"), (17, .nameAndType 139 158), (0, u "()V"), (40, u "(J)Ljava/time/Duration;"), (15, .methodref 11 216), (0, .nameAndType 139 217), (0, u "(JI)V"), (0, .methodref 219 157), (0, .class_ 220), (0, u "java/lang/Object"), (0, .fieldref 11 222), (0, .nameAndType 117 223), (0, u "J"), (0, .fieldref 11 225), (0, .nameAndType 226 227), (0, u "nanos"), (0, u "I"), (11, .class_ 241), (1, u "java/time/Duration$DurationUnits"), (27, .class_ 271), (1, u "java/time/Duration$1"), (91, u "BI_NANOS_PER_SECOND"), (0, u "Ljava/math/BigInteger;"), (21, u "isNegative"), (98, .class_ 486), (0, u "java/lang/Comparable"), (0, .class_ 488), (0, u "java/io/Serializable"), (0, u "serialVersionUID"), (12, u "ofMillis")] 153

def k19c0 : Code := { maxStack := 4, maxLocals := 5, code := jdk_2316_method_6_code, exceptionTable := #[], attributes := #[] }
def k19m0 : Method := { name := "ofMillis", desc := "(J)Ljava/time/Duration;", sig := { parameters := [.long], returnType := some (.object "java/time/Duration") }, accessFlags := 9, code := some k19c0 }
def k19c1 : Code := { maxStack := 5, maxLocals := 3, code := jdk_2316_method_16_code, exceptionTable := #[], attributes := #[] }
def k19m1 : Method := { name := "create", desc := "(JI)Ljava/time/Duration;", sig := { parameters := [.long, .int], returnType := some (.object "java/time/Duration") }, accessFlags := 10, code := some k19c1 }
def k19c2 : Code := { maxStack := 3, maxLocals := 4, code := jdk_2316_method_17_code, exceptionTable := #[], attributes := #[] }
def k19m2 : Method := { name := "<init>", desc := "(JI)V", sig := { parameters := [.long, .int], returnType := none }, accessFlags := 2, code := some k19c2 }
def k19c3 : Code := { maxStack := 4, maxLocals := 1, code := jdk_2316_method_22_code, exceptionTable := #[], attributes := #[] }
def k19m3 : Method := { name := "isNegative", desc := "()Z", sig := { parameters := [], returnType := some .boolean }, accessFlags := 1, code := some k19c3 }
/-- java/time/Duration -/
def k19 : Class := { plain "java/time/Duration" (some 0) with
  accessFlags := 49
  interfaces := #[18, 8, 7]
  cf := some (fileOf pool19 11 #[.nestMembers #[269, 239, 79]] #[{ accessFlags := 9, nameIndex := 502, descriptorIndex := 199, attributes := #[] }, { accessFlags := 10, nameIndex := 14, descriptorIndex := 15, attributes := #[] }, { accessFlags := 2, nameIndex := 139, descriptorIndex := 217, attributes := #[] }, { accessFlags := 1, nameIndex := 386, descriptorIndex := 65, attributes := #[] }] 49 219 #[49, 485, 487] #[{ accessFlags := 25, nameIndex := 34, descriptorIndex := 35, attributes := #[] }, { accessFlags := 26, nameIndex := 489, descriptorIndex := 223, attributes := #[] }, { accessFlags := 26, nameIndex := 363, descriptorIndex := 364, attributes := #[] }, { accessFlags := 18, nameIndex := 117, descriptorIndex := 223, attributes := #[] }, { accessFlags := 18, nameIndex := 226, descriptorIndex := 227, attributes := #[] }])
  fields := #[{ name := "ZERO", type := (.object "java/time/Duration"), accessFlags := 25, slot := 0, constantValue := 0 }, { name := "serialVersionUID", type := .long, accessFlags := 26, slot := 1, constantValue := 0 }, { name := "BI_NANOS_PER_SECOND", type := (.object "java/math/BigInteger"), accessFlags := 26, slot := 2, constantValue := 0 }, { name := "seconds", type := .long, accessFlags := 18, slot := 0, constantValue := 0 }, { name := "nanos", type := .int, accessFlags := 18, slot := 1, constantValue := 0 }]
  methods := #[k19m0, k19m1, k19m2, k19m3]
  instanceTypes := #[.long, .int]
  staticTypes := #[(.object "java/time/Duration"), .long, (.object "java/math/BigInteger")]
  resolved := Array.replicate 656 none
  statics := some 3 }

def pool20 : Array CpInfo := pool [(2, .class_ 4), (1, u "java/util/Optional"), (0, u "EMPTY"), (0, u "Ljava/util/Optional;"), (0, .methodref 8 9), (0, .class_ 10), (0, .nameAndType 11 12), (0, u "java/lang/Object"), (0, u "<init>"), (0, u "()V"), (0, .fieldref 2 14), (0, .nameAndType 15 16), (0, u "value"), (0, u "Ljava/lang/Object;"), (0, .methodref 18 19), (0, .class_ 20), (0, .nameAndType 21 22), (0, u "java/util/Objects"), (0, u "requireNonNull"), (0, u "(Ljava/lang/Object;)Ljava/lang/Object;"), (0, .methodref 2 24), (0, .nameAndType 11 25), (0, u "(Ljava/lang/Object;)V"), (39, u "(Ljava/lang/Object;)Ljava/util/Optional;"), (16, u "of")] 104

def k20c0 : Code := { maxStack := 2, maxLocals := 2, code := jdk_32_method_2_code, exceptionTable := #[], attributes := #[] }
def k20m0 : Method := { name := "<init>", desc := "(Ljava/lang/Object;)V", sig := { parameters := [(.object "java/lang/Object")], returnType := none }, accessFlags := 2, code := some k20c0 }
def k20c1 : Code := { maxStack := 3, maxLocals := 1, code := jdk_32_method_3_code, exceptionTable := #[], attributes := #[] }
def k20m1 : Method := { name := "of", desc := "(Ljava/lang/Object;)Ljava/util/Optional;", sig := { parameters := [(.object "java/lang/Object")], returnType := some (.object "java/util/Optional") }, accessFlags := 9, code := some k20c1 }
/-- java/util/Optional -/
def k20 : Class := { plain "java/util/Optional" (some 0) with
  accessFlags := 49
  interfaces := #[]
  cf := some (fileOf pool20 2 #[] #[{ accessFlags := 2, nameIndex := 11, descriptorIndex := 25, attributes := #[] }, { accessFlags := 9, nameIndex := 82, descriptorIndex := 65, attributes := #[] }] 49 8 #[] #[{ accessFlags := 26, nameIndex := 5, descriptorIndex := 6, attributes := #[] }, { accessFlags := 18, nameIndex := 15, descriptorIndex := 16, attributes := #[] }])
  fields := #[{ name := "EMPTY", type := (.object "java/util/Optional"), accessFlags := 26, slot := 0, constantValue := 0 }, { name := "value", type := (.object "java/lang/Object"), accessFlags := 18, slot := 0, constantValue := 0 }]
  methods := #[k20m0, k20m1]
  instanceTypes := #[(.object "java/lang/Object")]
  staticTypes := #[(.object "java/util/Optional")]
  resolved := Array.replicate 187 none
  statics := none }

def pool21 : Array CpInfo := pool [(1, u "java/lang/Cloneable"), (0, .class_ 1), (0, u "java/lang/Object"), (0, .class_ 3)] 3

/-- java/lang/Cloneable -/
def k21 : Class := { plain "java/lang/Cloneable" (some 0) with
  accessFlags := 1537
  interfaces := #[]
  cf := some (fileOf pool21 2 #[] #[] 1537 4 #[] #[])
  fields := #[]
  methods := #[]
  instanceTypes := #[]
  staticTypes := #[]
  resolved := Array.replicate 8 none
  statics := none }

/-- the primitive byte -/
def k22 : Class := { plain "byte" none with kind := .primitive 'B', accessFlags := 0x411 }
/-- [B -/
def k23 : Class := { plain "[B" (some 0) with kind := .array 22 .byte, interfaces := #[21, 7], accessFlags := 1041 }

/-- the primitive int -/
def k24 : Class := { plain "int" none with kind := .primitive 'I', accessFlags := 0x411 }
/-- [I -/
def k25 : Class := { plain "[I" (some 0) with kind := .array 24 .int, interfaces := #[21, 7], accessFlags := 1041 }

def heap : Heap := #[{ cls := 6, slots := #[.ref 4, .ref 5, .null, .null, .null, .null], vm := .statics 6 },
  { cls := 14, slots := #[.ref 4, .null, .null, .null, .null, .null], vm := .statics 14 },
  { cls := 15, slots := #[.ref 5, .null, .null], vm := .statics 15 },
  { cls := 19, slots := #[.ref 6, .long 0, .null], vm := .statics 19 },
  { cls := 14, slots := #[.null, .int 0, .int 0], vm := .none },
  { cls := 15, slots := #[.null, .int 0, .int 0], vm := .none },
  { cls := 19, slots := #[.long 0, .int 0], vm := .none }]
def classes : Array Class := #[k0, k1, k2, k3, k4, k5, k6, k7, k8, k9, k10, k11, k12, k13, k14, k15, k16, k17, k18, k19, k20, k21, k22, k23, k24, k25]
def interned : List (Array UInt16 × Addr) := []
def slotsUsed : Nat := 26
def theMethod : MethodId := ⟨1, 2⟩
def args0 : Array Value := #[.long 5, .long 6, .int 7, .int 8, .long 9]
def aboutOver (below : List Frame) : State where
  vm := { classes := classes, interned := interned.toArray }
  heap := heap
  slotsUsed := slotsUsed
  threads := #[{ frames := .invoking theMethod args0 :: below }]
def below0 : List Frame := [.native { method := ⟨0, 0⟩, args := #[] }]
def about1 : State := aboutOver below0
def p0 : Program := .bare "" "" ""
def e0 : Env := launch0.env 0 0 0
theorem w_frames : about1.frames = Frame.invoking theMethod args0 :: below0 := rfl
set_option maxRecDepth 65536 in
theorem w_args : argsFit about1.vm theMethod args0 = true := by decide +kernel
set_option maxRecDepth 65536 in
theorem w_heap : heapFits about1 = true := by decide +kernel
set_option maxRecDepth 65536 in
theorem w_runnable : about1.curStatus? = some .runnable := by decide +kernel
set_option maxRecDepth 65536 in
theorem w_alone : about1.alone = true := by decide +kernel
set_option maxRecDepth 65536 in
theorem w_named : about1.methodNamed? x = some theMethod := by decide +kernel
set_option maxRecDepth 65536 in
theorem w_hears : about1.hears theMethod below0 = true := by decide +kernel
set_option maxRecDepth 65536 in
theorem w_ripe : about1.ripe theMethod args0 below0 = true := by decide +kernel
theorem w_running : about1.status = .running := rfl
set_option maxRecDepth 65536 in
theorem w_room : about1.hasRoom e0.platform room_1 = true :=
  launch0.hasRoom_least _ room_1 (by decide +kernel) (by decide +kernel) (by decide +kernel) (by decide +kernel) (by decide +kernel) (by decide +kernel)
theorem allAtoms_all (ts : List Jvm.Cond) (a : Array Jvm.Value) (st : Jvm.State) : (allAtoms ts).before a st = ts.all (fun c => c.before a st) := by
  induction ts with
  | nil => rfl
  | cons c t ih =>
    show (Jvm.Cond.and c (allAtoms t)).before a st = _
    rw [Jvm.Cond.before_and, ih, List.all_cons]
def words1 : List Jvm.Cond := Jvm.Cond.code x code maxLocals ret :: tables_1
/-- a 'code' word, met by the world's own term for the bytes: nothing is compared byte by byte -/
theorem code_word {y : MethodName} {bytes : ByteArray} {mx : Nat} {rt : Option FieldType} {a : Array Value} {s : State} {m : MethodId} {meth : Method} {c : Code} (h1 : s.methodNamed? y = some m) (h2 : s.vm.method? m = some meth) (h3 : meth.code = some c) (h4 : c.code = bytes)
    (h5 : (c.maxLocals == mx && c.exceptionTable.isEmpty && decide (c.maxStack ≤ mostOperands) && decide (meth.sig.returnType = rt) && !meth.locks && decide (parseMethodDescriptor y.desc = some meth.sig)) = true) : (Jvm.Cond.code y bytes mx rt).before a s = true := by
  simp only [Bool.and_eq_true, beq_iff_eq, Bool.not_eq_true', decide_eq_true_eq] at h5
  obtain ⟨⟨⟨⟨⟨g1, g2⟩, g3⟩, g4⟩, g5⟩, g6⟩ := h5
  simp [Cond.before, Cond.holds, Cond.value, h1, h2, h3, h4, g1, g2, g3, g4, g5, g6]
def isCode : Jvm.Cond → Bool
  | .code _ _ _ _ => true
  | _ => false
theorem all_split {L : List Jvm.Cond} {P : Jvm.Cond → Bool} (h1 : L.all (fun c => isCode c || P c) = true) (h2 : ∀ c ∈ L.filter isCode, P c = true) : L.all P = true := by
  refine List.all_eq_true.mpr fun c hc => ?_
  have h := List.all_eq_true.mp h1 c hc
  rcases Bool.eq_false_or_eq_true (isCode c) with hi | hi
  · exact h2 c (List.mem_filter.mpr ⟨hc, hi⟩)
  · simpa [hi] using h
set_option maxRecDepth 65536 in
theorem w_c0 : (Jvm.Cond.code x code maxLocals ret).before args0 about1 = true := code_word (m := ⟨1, 2⟩) (meth := k1m2) (c := k1c2) (by decide +kernel) rfl rfl rfl (by decide +kernel)
set_option maxRecDepth 65536 in
theorem w_c1 : (Jvm.Cond.code ({ cls := "java/lang/Math", name := "max", desc := "(II)I" } : Jvm.MethodName) jdk_29_method_65_code (2 : Nat) (Option.some Jvm.ClassFile.FieldType.int)).before args0 about1 = true := code_word (m := ⟨2, 2⟩) (meth := k2m2) (c := k2c2) (by decide +kernel) rfl rfl rfl (by decide +kernel)
set_option maxRecDepth 65536 in
theorem w_c2 : (Jvm.Cond.code ({ cls := "com/example/blend2/blend2/Rule", name := "<init>", desc := "(Ljava/lang/String;II)V" } : Jvm.MethodName) prog_11_method_2_code (4 : Nat) (Option.none : Option Jvm.ClassFile.FieldType)).before args0 about1 = true := code_word (m := ⟨6, 1⟩) (meth := k6m1) (c := k6c1) (by decide +kernel) rfl rfl rfl (by decide +kernel)
set_option maxRecDepth 65536 in
theorem w_c3 : (Jvm.Cond.code ({ cls := "com/example/blend2/blend2/Rule", name := "<init>", desc := "(Ljava/lang/String;IILcom/example/blend2/blend2/Algorithm;Lcom/example/blend2/blend2/StoreFailurePolicy;)V" } : Jvm.MethodName) prog_11_method_1_code (6 : Nat) (Option.none : Option Jvm.ClassFile.FieldType)).before args0 about1 = true := code_word (m := ⟨6, 0⟩) (meth := k6m0) (c := k6c0) (by decide +kernel) rfl rfl rfl (by decide +kernel)
set_option maxRecDepth 65536 in
theorem w_c4 : (Jvm.Cond.code ({ cls := "java/lang/Record", name := "<init>", desc := "()V" } : Jvm.MethodName) jdk_30_method_1_code (1 : Nat) (Option.none : Option Jvm.ClassFile.FieldType)).before args0 about1 = true := code_word (m := ⟨5, 0⟩) (meth := k5m0) (c := k5c0) (by decide +kernel) rfl rfl rfl (by decide +kernel)
set_option maxRecDepth 65536 in
theorem w_c5 : (Jvm.Cond.code ({ cls := "java/lang/Object", name := "<init>", desc := "()V" } : Jvm.MethodName) object_method_1_code (1 : Nat) (Option.none : Option Jvm.ClassFile.FieldType)).before args0 about1 = true := code_word (m := ⟨0, 0⟩) (meth := k0m0) (c := k0c0) (by decide +kernel) rfl rfl rfl (by decide +kernel)
set_option maxRecDepth 65536 in
theorem w_c6 : (Jvm.Cond.code ({ cls := "java/util/Objects", name := "requireNonNull", desc := "(Ljava/lang/Object;Ljava/lang/String;)Ljava/lang/Object;" } : Jvm.MethodName) jdk_31_method_11_code (2 : Nat) (Option.some (Jvm.ClassFile.FieldType.object "java/lang/Object"))).before args0 about1 = true := code_word (m := ⟨16, 2⟩) (meth := k16m2) (c := k16c2) (by decide +kernel) rfl rfl rfl (by decide +kernel)
set_option maxRecDepth 65536 in
theorem w_c7 : (Jvm.Cond.code ({ cls := "com/example/blend2/blend2/FixedWindow", name := "<init>", desc := "(Lcom/example/blend2/blend2/Rule;)V" } : Jvm.MethodName) prog_4_method_1_code (2 : Nat) (Option.none : Option Jvm.ClassFile.FieldType)).before args0 about1 = true := code_word (m := ⟨4, 0⟩) (meth := k4m0) (c := k4c0) (by decide +kernel) rfl rfl rfl (by decide +kernel)
set_option maxRecDepth 65536 in
theorem w_c8 : (Jvm.Cond.code ({ cls := "com/example/blend2/blend2/Rule", name := "timeWindowSec", desc := "()I" } : Jvm.MethodName) prog_11_method_8_code (1 : Nat) (Option.some Jvm.ClassFile.FieldType.int)).before args0 about1 = true := code_word (m := ⟨6, 3⟩) (meth := k6m3) (c := k6c3) (by decide +kernel) rfl rfl rfl (by decide +kernel)
set_option maxRecDepth 65536 in
theorem w_c9 : (Jvm.Cond.code ({ cls := "com/example/blend2/blend2/FixedWindow", name := "decide", desc := "(J)Lcom/example/blend2/blend2/Decision;" } : Jvm.MethodName) prog_4_method_2_code (8 : Nat) (Option.some (Jvm.ClassFile.FieldType.object "com/example/blend2/blend2/Decision"))).before args0 about1 = true := code_word (m := ⟨4, 1⟩) (meth := k4m1) (c := k4c1) (by decide +kernel) rfl rfl rfl (by decide +kernel)
set_option maxRecDepth 65536 in
theorem w_c10 : (Jvm.Cond.code ({ cls := "java/lang/Math", name := "floorDiv", desc := "(JJ)J" } : Jvm.MethodName) jdk_29_method_49_code (6 : Nat) (Option.some Jvm.ClassFile.FieldType.long)).before args0 about1 = true := code_word (m := ⟨2, 1⟩) (meth := k2m1) (c := k2c1) (by decide +kernel) rfl rfl rfl (by decide +kernel)
set_option maxRecDepth 65536 in
theorem w_c11 : (Jvm.Cond.code ({ cls := "com/example/blend2/blend2/Rule", name := "capacity", desc := "()I" } : Jvm.MethodName) prog_11_method_7_code (1 : Nat) (Option.some Jvm.ClassFile.FieldType.int)).before args0 about1 = true := code_word (m := ⟨6, 2⟩) (meth := k6m2) (c := k6c2) (by decide +kernel) rfl rfl rfl (by decide +kernel)
set_option maxRecDepth 65536 in
theorem w_c12 : (Jvm.Cond.code ({ cls := "com/example/blend2/blend2/Decision", name := "admitted", desc := "(Lcom/example/blend2/blend2/Rule;I)Lcom/example/blend2/blend2/Decision;" } : Jvm.MethodName) prog_2_method_3_code (2 : Nat) (Option.some (Jvm.ClassFile.FieldType.object "com/example/blend2/blend2/Decision"))).before args0 about1 = true := code_word (m := ⟨17, 1⟩) (meth := k17m1) (c := k17c1) (by decide +kernel) rfl rfl rfl (by decide +kernel)
set_option maxRecDepth 65536 in
theorem w_c13 : (Jvm.Cond.code ({ cls := "com/example/blend2/blend2/Decision", name := "admitted", desc := "(Lcom/example/blend2/blend2/Rule;ILjava/time/Duration;)Lcom/example/blend2/blend2/Decision;" } : Jvm.MethodName) prog_2_method_4_code (3 : Nat) (Option.some (Jvm.ClassFile.FieldType.object "com/example/blend2/blend2/Decision"))).before args0 about1 = true := code_word (m := ⟨17, 2⟩) (meth := k17m2) (c := k17c2) (by decide +kernel) rfl rfl rfl (by decide +kernel)
set_option maxRecDepth 65536 in
theorem w_c14 : (Jvm.Cond.code ({ cls := "java/util/Optional", name := "of", desc := "(Ljava/lang/Object;)Ljava/util/Optional;" } : Jvm.MethodName) jdk_32_method_3_code (1 : Nat) (Option.some (Jvm.ClassFile.FieldType.object "java/util/Optional"))).before args0 about1 = true := code_word (m := ⟨20, 1⟩) (meth := k20m1) (c := k20c1) (by decide +kernel) rfl rfl rfl (by decide +kernel)
set_option maxRecDepth 65536 in
theorem w_c15 : (Jvm.Cond.code ({ cls := "java/util/Objects", name := "requireNonNull", desc := "(Ljava/lang/Object;)Ljava/lang/Object;" } : Jvm.MethodName) jdk_31_method_10_code (1 : Nat) (Option.some (Jvm.ClassFile.FieldType.object "java/lang/Object"))).before args0 about1 = true := code_word (m := ⟨16, 1⟩) (meth := k16m1) (c := k16c1) (by decide +kernel) rfl rfl rfl (by decide +kernel)
set_option maxRecDepth 65536 in
theorem w_c16 : (Jvm.Cond.code ({ cls := "java/util/Optional", name := "<init>", desc := "(Ljava/lang/Object;)V" } : Jvm.MethodName) jdk_32_method_2_code (2 : Nat) (Option.none : Option Jvm.ClassFile.FieldType)).before args0 about1 = true := code_word (m := ⟨20, 0⟩) (meth := k20m0) (c := k20c0) (by decide +kernel) rfl rfl rfl (by decide +kernel)
set_option maxRecDepth 65536 in
theorem w_c17 : (Jvm.Cond.code ({ cls := "com/example/blend2/blend2/Decision", name := "<init>", desc := "(ZLjava/util/Optional;ILjava/time/Duration;Ljava/time/Duration;Z)V" } : Jvm.MethodName) prog_2_method_1_code (7 : Nat) (Option.none : Option Jvm.ClassFile.FieldType)).before args0 about1 = true := code_word (m := ⟨17, 0⟩) (meth := k17m0) (c := k17c0) (by decide +kernel) rfl rfl rfl (by decide +kernel)
set_option maxRecDepth 65536 in
theorem w_c18 : (Jvm.Cond.code ({ cls := "java/time/Duration", name := "isNegative", desc := "()Z" } : Jvm.MethodName) jdk_2316_method_22_code (1 : Nat) (Option.some Jvm.ClassFile.FieldType.boolean)).before args0 about1 = true := code_word (m := ⟨19, 3⟩) (meth := k19m3) (c := k19c3) (by decide +kernel) rfl rfl rfl (by decide +kernel)
set_option maxRecDepth 65536 in
theorem w_c19 : (Jvm.Cond.code ({ cls := "com/example/blend2/blend2/FixedWindowIsIdleAtPinLaw", name := "windowEnd", desc := "(JJ)J" } : Jvm.MethodName) method_2_code (6 : Nat) (Option.some Jvm.ClassFile.FieldType.long)).before args0 about1 = true := code_word (m := ⟨1, 1⟩) (meth := k1m1) (c := k1c1) (by decide +kernel) rfl rfl rfl (by decide +kernel)
set_option maxRecDepth 65536 in
theorem w_c20 : (Jvm.Cond.code ({ cls := "com/example/blend2/blend2/FixedWindow", name := "isIdleAt", desc := "(J)Z" } : Jvm.MethodName) prog_4_method_3_code (3 : Nat) (Option.some Jvm.ClassFile.FieldType.boolean)).before args0 about1 = true := code_word (m := ⟨4, 2⟩) (meth := k4m2) (c := k4c2) (by decide +kernel) rfl rfl rfl (by decide +kernel)
set_option maxRecDepth 65536 in
theorem w_c21 : (Jvm.Cond.code ({ cls := "java/time/Duration", name := "ofMillis", desc := "(J)Ljava/time/Duration;" } : Jvm.MethodName) jdk_2316_method_6_code (5 : Nat) (Option.some (Jvm.ClassFile.FieldType.object "java/time/Duration"))).before args0 about1 = true := code_word (m := ⟨19, 0⟩) (meth := k19m0) (c := k19c0) (by decide +kernel) rfl rfl rfl (by decide +kernel)
set_option maxRecDepth 65536 in
theorem w_c22 : (Jvm.Cond.code ({ cls := "java/time/Duration", name := "create", desc := "(JI)Ljava/time/Duration;" } : Jvm.MethodName) jdk_2316_method_16_code (3 : Nat) (Option.some (Jvm.ClassFile.FieldType.object "java/time/Duration"))).before args0 about1 = true := code_word (m := ⟨19, 1⟩) (meth := k19m1) (c := k19c1) (by decide +kernel) rfl rfl rfl (by decide +kernel)
set_option maxRecDepth 65536 in
theorem w_c23 : (Jvm.Cond.code ({ cls := "java/time/Duration", name := "<init>", desc := "(JI)V" } : Jvm.MethodName) jdk_2316_method_17_code (4 : Nat) (Option.none : Option Jvm.ClassFile.FieldType)).before args0 about1 = true := code_word (m := ⟨19, 2⟩) (meth := k19m2) (c := k19c2) (by decide +kernel) rfl rfl rfl (by decide +kernel)
set_option maxRecDepth 65536 in
theorem w_c24 : (Jvm.Cond.code ({ cls := "com/example/blend2/blend2/Decision", name := "refused", desc := "(Lcom/example/blend2/blend2/Rule;Ljava/time/Duration;)Lcom/example/blend2/blend2/Decision;" } : Jvm.MethodName) prog_2_method_5_code (2 : Nat) (Option.some (Jvm.ClassFile.FieldType.object "com/example/blend2/blend2/Decision"))).before args0 about1 = true := code_word (m := ⟨17, 3⟩) (meth := k17m3) (c := k17c3) (by decide +kernel) rfl rfl rfl (by decide +kernel)
def codes1 : List Jvm.Cond := [Jvm.Cond.code x code maxLocals ret, Jvm.Cond.code ({ cls := "java/lang/Math", name := "max", desc := "(II)I" } : Jvm.MethodName) jdk_29_method_65_code (2 : Nat) (Option.some Jvm.ClassFile.FieldType.int), Jvm.Cond.code ({ cls := "com/example/blend2/blend2/Rule", name := "<init>", desc := "(Ljava/lang/String;II)V" } : Jvm.MethodName) prog_11_method_2_code (4 : Nat) (Option.none : Option Jvm.ClassFile.FieldType), Jvm.Cond.code ({ cls := "com/example/blend2/blend2/Rule", name := "<init>", desc := "(Ljava/lang/String;IILcom/example/blend2/blend2/Algorithm;Lcom/example/blend2/blend2/StoreFailurePolicy;)V" } : Jvm.MethodName) prog_11_method_1_code (6 : Nat) (Option.none : Option Jvm.ClassFile.FieldType), Jvm.Cond.code ({ cls := "java/lang/Record", name := "<init>", desc := "()V" } : Jvm.MethodName) jdk_30_method_1_code (1 : Nat) (Option.none : Option Jvm.ClassFile.FieldType), Jvm.Cond.code ({ cls := "java/lang/Object", name := "<init>", desc := "()V" } : Jvm.MethodName) object_method_1_code (1 : Nat) (Option.none : Option Jvm.ClassFile.FieldType), Jvm.Cond.code ({ cls := "java/util/Objects", name := "requireNonNull", desc := "(Ljava/lang/Object;Ljava/lang/String;)Ljava/lang/Object;" } : Jvm.MethodName) jdk_31_method_11_code (2 : Nat) (Option.some (Jvm.ClassFile.FieldType.object "java/lang/Object")), Jvm.Cond.code ({ cls := "com/example/blend2/blend2/FixedWindow", name := "<init>", desc := "(Lcom/example/blend2/blend2/Rule;)V" } : Jvm.MethodName) prog_4_method_1_code (2 : Nat) (Option.none : Option Jvm.ClassFile.FieldType), Jvm.Cond.code ({ cls := "com/example/blend2/blend2/Rule", name := "timeWindowSec", desc := "()I" } : Jvm.MethodName) prog_11_method_8_code (1 : Nat) (Option.some Jvm.ClassFile.FieldType.int), Jvm.Cond.code ({ cls := "com/example/blend2/blend2/FixedWindow", name := "decide", desc := "(J)Lcom/example/blend2/blend2/Decision;" } : Jvm.MethodName) prog_4_method_2_code (8 : Nat) (Option.some (Jvm.ClassFile.FieldType.object "com/example/blend2/blend2/Decision")), Jvm.Cond.code ({ cls := "java/lang/Math", name := "floorDiv", desc := "(JJ)J" } : Jvm.MethodName) jdk_29_method_49_code (6 : Nat) (Option.some Jvm.ClassFile.FieldType.long), Jvm.Cond.code ({ cls := "com/example/blend2/blend2/Rule", name := "capacity", desc := "()I" } : Jvm.MethodName) prog_11_method_7_code (1 : Nat) (Option.some Jvm.ClassFile.FieldType.int), Jvm.Cond.code ({ cls := "com/example/blend2/blend2/Decision", name := "admitted", desc := "(Lcom/example/blend2/blend2/Rule;I)Lcom/example/blend2/blend2/Decision;" } : Jvm.MethodName) prog_2_method_3_code (2 : Nat) (Option.some (Jvm.ClassFile.FieldType.object "com/example/blend2/blend2/Decision")), Jvm.Cond.code ({ cls := "com/example/blend2/blend2/Decision", name := "admitted", desc := "(Lcom/example/blend2/blend2/Rule;ILjava/time/Duration;)Lcom/example/blend2/blend2/Decision;" } : Jvm.MethodName) prog_2_method_4_code (3 : Nat) (Option.some (Jvm.ClassFile.FieldType.object "com/example/blend2/blend2/Decision")), Jvm.Cond.code ({ cls := "java/util/Optional", name := "of", desc := "(Ljava/lang/Object;)Ljava/util/Optional;" } : Jvm.MethodName) jdk_32_method_3_code (1 : Nat) (Option.some (Jvm.ClassFile.FieldType.object "java/util/Optional")), Jvm.Cond.code ({ cls := "java/util/Objects", name := "requireNonNull", desc := "(Ljava/lang/Object;)Ljava/lang/Object;" } : Jvm.MethodName) jdk_31_method_10_code (1 : Nat) (Option.some (Jvm.ClassFile.FieldType.object "java/lang/Object")), Jvm.Cond.code ({ cls := "java/util/Optional", name := "<init>", desc := "(Ljava/lang/Object;)V" } : Jvm.MethodName) jdk_32_method_2_code (2 : Nat) (Option.none : Option Jvm.ClassFile.FieldType), Jvm.Cond.code ({ cls := "com/example/blend2/blend2/Decision", name := "<init>", desc := "(ZLjava/util/Optional;ILjava/time/Duration;Ljava/time/Duration;Z)V" } : Jvm.MethodName) prog_2_method_1_code (7 : Nat) (Option.none : Option Jvm.ClassFile.FieldType), Jvm.Cond.code ({ cls := "java/time/Duration", name := "isNegative", desc := "()Z" } : Jvm.MethodName) jdk_2316_method_22_code (1 : Nat) (Option.some Jvm.ClassFile.FieldType.boolean), Jvm.Cond.code ({ cls := "com/example/blend2/blend2/FixedWindowIsIdleAtPinLaw", name := "windowEnd", desc := "(JJ)J" } : Jvm.MethodName) method_2_code (6 : Nat) (Option.some Jvm.ClassFile.FieldType.long), Jvm.Cond.code ({ cls := "com/example/blend2/blend2/FixedWindow", name := "isIdleAt", desc := "(J)Z" } : Jvm.MethodName) prog_4_method_3_code (3 : Nat) (Option.some Jvm.ClassFile.FieldType.boolean), Jvm.Cond.code ({ cls := "java/time/Duration", name := "ofMillis", desc := "(J)Ljava/time/Duration;" } : Jvm.MethodName) jdk_2316_method_6_code (5 : Nat) (Option.some (Jvm.ClassFile.FieldType.object "java/time/Duration")), Jvm.Cond.code ({ cls := "java/time/Duration", name := "create", desc := "(JI)Ljava/time/Duration;" } : Jvm.MethodName) jdk_2316_method_16_code (3 : Nat) (Option.some (Jvm.ClassFile.FieldType.object "java/time/Duration")), Jvm.Cond.code ({ cls := "java/time/Duration", name := "<init>", desc := "(JI)V" } : Jvm.MethodName) jdk_2316_method_17_code (4 : Nat) (Option.none : Option Jvm.ClassFile.FieldType), Jvm.Cond.code ({ cls := "com/example/blend2/blend2/Decision", name := "refused", desc := "(Lcom/example/blend2/blend2/Rule;Ljava/time/Duration;)Lcom/example/blend2/blend2/Decision;" } : Jvm.MethodName) prog_2_method_5_code (2 : Nat) (Option.some (Jvm.ClassFile.FieldType.object "com/example/blend2/blend2/Decision"))]
set_option maxRecDepth 65536 in
theorem codes_eq : words1.filter isCode = codes1 := rfl
theorem w_codes : ∀ c ∈ words1.filter isCode, c.before args0 about1 = true := by
  rw [codes_eq]
  intro c hc
  simp only [codes1, List.mem_cons, List.not_mem_nil, or_false] at hc
  rcases hc with rfl | rfl | rfl | rfl | rfl | rfl | rfl | rfl | rfl | rfl | rfl | rfl | rfl | rfl | rfl | rfl | rfl | rfl | rfl | rfl | rfl | rfl | rfl | rfl | rfl
  · exact w_c0
  · exact w_c1
  · exact w_c2
  · exact w_c3
  · exact w_c4
  · exact w_c5
  · exact w_c6
  · exact w_c7
  · exact w_c8
  · exact w_c9
  · exact w_c10
  · exact w_c11
  · exact w_c12
  · exact w_c13
  · exact w_c14
  · exact w_c15
  · exact w_c16
  · exact w_c17
  · exact w_c18
  · exact w_c19
  · exact w_c20
  · exact w_c21
  · exact w_c22
  · exact w_c23
  · exact w_c24
set_option maxRecDepth 65536 in
theorem w_t1 : (words1.take 24).all (fun c => isCode c || c.before args0 about1) = true := by decide +kernel
set_option maxRecDepth 65536 in
theorem w_t2 : ((words1.drop 24).take 24).all (fun c => isCode c || c.before args0 about1) = true := by decide +kernel
set_option maxRecDepth 65536 in
theorem w_t3 : (((words1.drop 24).drop 24).take 24).all (fun c => isCode c || c.before args0 about1) = true := by decide +kernel
set_option maxRecDepth 65536 in
theorem w_t4 : ((((words1.drop 24).drop 24).drop 24).take 24).all (fun c => isCode c || c.before args0 about1) = true := by decide +kernel
set_option maxRecDepth 65536 in
theorem w_t5 : (((((words1.drop 24).drop 24).drop 24).drop 24).take 24).all (fun c => isCode c || c.before args0 about1) = true := by decide +kernel
set_option maxRecDepth 65536 in
theorem w_t6 : ((((((words1.drop 24).drop 24).drop 24).drop 24).drop 24).take 24).all (fun c => isCode c || c.before args0 about1) = true := by decide +kernel
set_option maxRecDepth 65536 in
theorem w_t7 : (((((((words1.drop 24).drop 24).drop 24).drop 24).drop 24).drop 24).take 24).all (fun c => isCode c || c.before args0 about1) = true := by decide +kernel
set_option maxRecDepth 65536 in
theorem w_t8 : (((((((words1.drop 24).drop 24).drop 24).drop 24).drop 24).drop 24).drop 24).all (fun c => isCode c || c.before args0 about1) = true := by decide +kernel
theorem w_tables : (allAtoms (Jvm.Cond.code x code maxLocals ret :: tables_1)).before args0 about1 = true := by
  rw [allAtoms_all]
  show words1.all (fun c => c.before args0 about1) = true
  refine all_split ?_ w_codes
  rw [← List.take_append_drop 24 words1, List.all_append, w_t1, ← List.take_append_drop 24 (words1.drop 24), List.all_append, w_t2, ← List.take_append_drop 24 ((words1.drop 24).drop 24), List.all_append, w_t3, ← List.take_append_drop 24 (((words1.drop 24).drop 24).drop 24), List.all_append, w_t4, ← List.take_append_drop 24 ((((words1.drop 24).drop 24).drop 24).drop 24), List.all_append, w_t5, ← List.take_append_drop 24 (((((words1.drop 24).drop 24).drop 24).drop 24).drop 24), List.all_append, w_t6, ← List.take_append_drop 24 ((((((words1.drop 24).drop 24).drop 24).drop 24).drop 24).drop 24), List.all_append, w_t7, w_t8]
  rfl
set_option maxRecDepth 65536 in
theorem w_rest : rest_1_c.before args0 about1 = true := by decide +kernel
set_option maxRecDepth 65536 in
theorem w_case : (Jvm.Cond.and given_1 narrow_1).before args0 about1 = true := by decide +kernel
theorem w_applies : (headSpec (Jvm.Cond.code x code maxLocals ret :: tables_1) room_1).applies x e0.platform about1 = true :=
  (Spec.applies_iff w_frames).mpr ⟨w_running, w_runnable, w_alone, w_named, w_hears, w_ripe, w_room, w_tables⟩
theorem atStart : AtStart classFile x code maxLocals ret World_1 tables_1 room_1 Calls_1 rest_1 Pre_1 launch0 p0 e0 about1 theMethod args0 below0 :=
  ⟨lists_1, trivial, launch0.admits_env _ _ _, launch0.least_env, fairChoices_fair.cas, fairChoices_fair.clock, w_frames, w_args, w_heap, w_applies, trivial, w_rest, w_case⟩
end start1
theorem witness_1 : WitnessClaimed_1 := ⟨start1.p0, start1.e0, start1.about1, start1.theMethod, start1.args0, start1.below0, start1.atStart⟩
end Jvm.Pilot.@@N@@
