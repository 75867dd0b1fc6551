import JvmDerived
import JvmDerived.Pilot.@@N@@Statement
import JvmDerived.Pilot.@@N@@Code
set_option linter.unusedVariables false
set_option linter.unusedSimpArgs false
@@BLOCK:NumsL.lean.txt@@
namespace Jvm.Pilot.@@N@@
open Jvm Jvm.ClassFile Sem Op Lib Jvm.Free Jvm.Stand Jvm.LawKit Jvm.RoadKit Bundle Jvm.Pilot.@@N@@.Jvm.D
/-- two roads that come together: the rest is shown once, for every state and value with which they come -/
theorem own_join {p : Program} {l : Launch} {e : Env} {R : Room} {s : State} {m : MethodId} {args : Array Value} {below : List Frame} {meth : Method} {c : Code} {T : State} {locs : List Loc} {cells slots n0 : Nat} {A : State} {P : State → Outcome → Prop}
    (X : Stand p l e R s m args below meth c T locs cells slots) (N : Fr n0 locs) {ι : Type} (Φ : ι → State → Prop) (B : ι → JFrame)
    (rest : ∀ i T' locs', Stand p l e R s m args below meth c T' locs' cells slots → Fr n0 locs' → Φ i T' → ∃ s₂ o, Steps p.tables e below (T'.setTop (B i)) s₂ ∧ P s₂ o)
    (come : (∀ i T' locs', Stand p l e R s m args below meth c T' locs' cells slots → Fr n0 locs' → Φ i T' → ∃ s₂ o, Steps p.tables e below (T'.setTop (B i)) s₂ ∧ P s₂ o) → ∃ s₂ o, Steps p.tables e below A s₂ ∧ P s₂ o) : ∃ s₂ o, Steps p.tables e below A s₂ ∧ P s₂ o := come rest
theorem own_joinH {p : Program} {l : Launch} {e : Env} {R : Room} {s : State} {m : MethodId} {args : Array Value} {below : List Frame} {meth : Method} {c : Code} {T : State} {locs : List Loc} {cells slots n0 : Nat} {A : State} {P : State → Outcome → Prop}
    (X : Stand p l e R s m args below meth c T locs cells slots) (N : Fr n0 locs) {ι : Type} (cells' slots' : Nat) (Φ : ι → Heap → Prop) (B : ι → JFrame)
    (rest : ∀ i T' locs', Stand p l e R s m args below meth c T' locs' cells' slots' → Fr n0 locs' → Φ i T'.heap → ∃ s₂ o, Steps p.tables e below (T'.setTop (B i)) s₂ ∧ P s₂ o)
    (come : (∀ i T' locs', Stand p l e R s m args below meth c T' locs' cells' slots' → Fr n0 locs' → Φ i T'.heap → ∃ s₂ o, Steps p.tables e below (T'.setTop (B i)) s₂ ∧ P s₂ o) → ∃ s₂ o, Steps p.tables e below A s₂ ∧ P s₂ o) : ∃ s₂ o, Steps p.tables e below A s₂ ∧ P s₂ o := come rest
theorem own_mono {p : Program} {l : Launch} {e : Env} {R : Room} {s : State} {m : MethodId} {args : Array Value} {below : List Frame} {meth : Method} {c : Code} {T : State} {locs : List Loc} {cells slots cells' slots' : Nat}
    (X : Stand p l e R s m args below meth c T locs cells slots) (h1 : cells ≤ cells') (h2 : slots ≤ slots') : Stand p l e R s m args below meth c T locs cells' slots' := { X with same := X.same.mono h1 h2 }
theorem own_sta_keep {Z : State} {h h' : Heap} {C n d : String} {v : Value} {ws : List Addr} (F : Sta Z h C n d v) (K : Keep h h' ws) (q : ∀ x ∈ ws, ∀ c : Cell, h[x]? = some c → c.vm.isStatics = false) : Sta Z h' C n d v := by
  obtain ⟨cf, i, k, f, st, cell, h1, h2, h3, h4, h5, h6, h7⟩ := F
  refine ⟨cf, i, k, f, st, cell, h1, h2, h3, h4, K.2.1 st cell h5 fun hm => ?_, h6, h7⟩
  rw [q st hm cell h5] at h6
  cases h6
theorem own_arr_keep {Z : State} {h h' : Heap} {a : Addr} {c : Cell} {ty : FieldType} {ws : List Addr} (F : Arr Z h a c ty) (K : Keep h h' ws) (q : a ∉ ws) : Arr Z h' a c ty := ⟨K.2.1 _ _ F.1 q, F.2⟩
theorem own_plain_E {Z : State} {h : Heap} {a : Addr} {C : String} (F : Exa Z h a C) : ∀ c : Cell, h[a]? = some c → c.vm.isStatics = false := by
  obtain ⟨cell, k, h1, h2, h3, h4, h5⟩ := F
  intro c hc
  cases h1.symm.trans hc
  exact h4
theorem own_plain_V {Z : State} {h : Heap} {a : Addr} {k : ClassId} {ty : FieldType} {n : Int32} {vs : List Value} {d : Value} (F : Arv Z h a k ty n vs d) : ∀ c : Cell, h[a]? = some c → c.vm.isStatics = false := by
  obtain ⟨cell, A, -⟩ := F
  intro c hc
  cases A.1.symm.trans hc
  exact A.plain
/-- a stretch of the road, then the rest -/
theorem own_go {tb : Tables} {e : Env} {below : List Frame} {A B : State} {P : State → Outcome → Prop} (h : ∀ t, Steps tb e below B t → Steps tb e below A t) (k : ∃ s₂ o, Steps tb e below B s₂ ∧ P s₂ o) : ∃ s₂ o, Steps tb e below A s₂ ∧ P s₂ o := by
  obtain ⟨s₂, o, h1, h2⟩ := k
  exact ⟨s₂, o, h s₂ h1, h2⟩
theorem own_eqI {args : Array Value} {first s : State} {o : Option Outcome} {idx : List Nat} {t : Term} {k : Int32} (h : (Jvm.Cond.eq t (.int k)).value args first o s idx = some true) : t.eval args first o idx s = some (.int k) := by
  simp only [Jvm.Cond.value, Term.eval] at h
  cases ht : t.eval args first o idx s with
  | none => simp [ht] at h
  | some x => cases x <;> simp [ht] at h ⊢; exact h
theorem own_eqJ {args : Array Value} {first s : State} {o : Option Outcome} {idx : List Nat} {t : Term} {k : Int64} (h : (Jvm.Cond.eq t (.long k)).value args first o s idx = some true) : t.eval args first o idx s = some (.long k) := by
  simp only [Jvm.Cond.value, Term.eval] at h
  cases ht : t.eval args first o idx s with
  | none => simp [ht] at h
  | some x => cases x <;> simp [ht] at h ⊢; exact h
theorem own_eqR {args : Array Value} {first s : State} {o : Option Outcome} {idx : List Nat} {t u : Term} {a : Addr} (h : (Jvm.Cond.eq t u).value args first o s idx = some true) (hu : u.eval args first o idx s = some (.ref a)) : t.eval args first o idx s = some (.ref a) := by
  simp only [Jvm.Cond.value] at h
  cases ht : t.eval args first o idx s with
  | none => simp [ht] at h
  | some x => cases x <;> simp [ht, hu] at h ⊢; exact h
def own_fd (x y : Int64) : Int64 := if (x ^^^ y) < (0 : Int64) then (if ((x / y) * y) = x then (x / y) else ((x / y) - (1 : Int64))) else (x / y)
theorem own_xneg {x y : Int64} (hy : 0 ≤ y.toInt) : (x ^^^ y) < (0 : Int64) ↔ x.toInt < 0 := by
  have e : ∀ z : Int64, (z < (0 : Int64)) ↔ z.toBitVec.msb = true := fun z => by
    rw [Int64.lt_iff_toInt_lt]
    show z.toBitVec.toInt < 0 ↔ _
    rw [BitVec.msb_eq_toInt]
    simp
  rw [e, Int64.toBitVec_xor, BitVec.msb_xor]
  have h1 : y.toBitVec.msb = false := by
    rw [BitVec.msb_eq_toInt]
    simpa using hy
  have h2 : x.toBitVec.msb = decide (x.toInt < 0) := BitVec.msb_eq_toInt
  rw [h1, h2]
  simp
theorem own_fd_int {x y : Int64} (hy : 0 < y.toInt) (hb1 : -4611686018427387904 ≤ x.toInt) (hb2 : x.toInt ≤ 4611686018427387904) : (own_fd x y).toInt = x.toInt / y.toInt := by
  have hq : (x / y).toInt = x.toInt.tdiv y.toInt := Jvm.Kit.i64_div (by omega)
  have h1 : (1 : Int64).toInt = 1 := rfl
  show (if (x ^^^ y) < (0 : Int64) then (if ((x / y) * y) = x then (x / y) else ((x / y) - (1 : Int64))) else (x / y)).toInt = _
  by_cases c : (x ^^^ y) < (0 : Int64)
  · rw [if_pos c]
    have hn := (own_xneg (Int.le_of_lt hy)).mp c
    obtain ⟨a, ha⟩ : ∃ a : Int, x.toInt = -a := ⟨-x.toInt, by omega⟩
    obtain ⟨b, hb⟩ : ∃ b : Int, y.toInt = b := ⟨_, rfl⟩
    have ht : x.toInt.tdiv y.toInt = -(a / b) := by rw [ha, hb, Int.neg_tdiv, Int.tdiv_eq_ediv_of_nonneg (by omega)]
    have hm := Int.mul_ediv_add_emod a b
    have hr1 := Int.emod_nonneg a (b := b) (by omega)
    have hr2 := Int.emod_lt_of_pos a (b := b) (by omega)
    have hd0 : 0 ≤ a / b := Int.ediv_nonneg (by omega) (by omega)
    have hd1 : a / b ≤ a := Int.ediv_le_self b (by omega)
    have hpm : ((x / y) * y).toInt = -(b * (a / b)) := by
      have e1 : (x / y).toInt * y.toInt = -(b * (a / b)) := by rw [hq, ht, hb, Int.neg_mul, Int.mul_comm]
      rw [Jvm.Kit.i64_mul (by rw [e1]; omega) (by rw [e1]; have := Int.mul_nonneg (a := b) (by omega) hd0; omega), e1]
    by_cases d : ((x / y) * y) = x
    · rw [if_pos d, hq, ht, ha, hb]
      rw [← Int64.toInt_inj, hpm, ha] at d
      symm
      refine ((Int.ediv_emod_unique (a := -a) (b := b) (r := 0) (q := -(a / b)) (by omega)).mpr ⟨?_, by omega, by omega⟩).1
      rw [Int.mul_neg]; omega
    · rw [if_neg d]
      rw [← Int64.toInt_inj, hpm, ha] at d
      rw [Jvm.Kit.i64_sub (by rw [hq, ht, h1]; omega) (by rw [hq, ht, h1]; omega), hq, ht, h1, ha, hb]
      symm
      refine ((Int.ediv_emod_unique (a := -a) (b := b) (r := b - a % b) (q := -(a / b) - 1) (by omega)).mpr ⟨?_, by omega, by omega⟩).1
      rw [Int.mul_sub, Int.mul_neg, Int.mul_one]; omega
  · rw [if_neg c, hq]
    have hn : 0 ≤ x.toInt := Int.not_lt.mp fun q => c ((own_xneg (Int.le_of_lt hy)).mpr q)
    exact Int.tdiv_eq_ediv_of_nonneg hn
/-- the window's start, as a number -/
theorem own_start {t w : Int64} (hw : 1000 ≤ w.toInt ∧ w.toInt ≤ 2147483647000) (h1 : -4611686018427387904 ≤ t.toInt) (h2 : t.toInt ≤ 4611686018427387904) : (own_fd t w * w).toInt = t.toInt - t.toInt % w.toInt := by
  have hf := own_fd_int (x := t) (y := w) (by omega) h1 h2
  have hm := Int.mul_ediv_add_emod t.toInt w.toInt
  have hr1 := Int.emod_nonneg t.toInt (b := w.toInt) (by omega)
  have hr2 := Int.emod_lt_of_pos t.toInt (b := w.toInt) (by omega)
  have e : (own_fd t w).toInt * w.toInt = t.toInt - t.toInt % w.toInt := by rw [hf, Int.mul_comm]; omega
  rw [Jvm.Kit.i64_mul (by rw [e]; omega) (by rw [e]; omega), e]
def own_we (t w : Int64) : Int64 := if (t - (t / w) * w) < (0 : Int64) then ((t - ((t - (t / w) * w) + w)) + w) else ((t - (t - (t / w) * w)) + w)
theorem own_we_int {t w : Int64} (hw : 1000 ≤ w.toInt ∧ w.toInt ≤ 2147483647000) (h1 : -4611686018427387904 ≤ t.toInt) (h2 : t.toInt ≤ 4611686018427387904) : (own_we t w).toInt = t.toInt - t.toInt % w.toInt + w.toInt := by
  have hr := Jvm.Kit.i64_rem t w
  have h0 : (0 : Int64).toInt = 0 := rfl
  have hr1 := Int.emod_nonneg t.toInt (b := w.toInt) (by omega)
  have hr2 := Int.emod_lt_of_pos t.toInt (b := w.toInt) (by omega)
  have ht : t.toInt.tmod w.toInt = t.toInt % w.toInt ∨ (t.toInt.tmod w.toInt = t.toInt % w.toInt - w.toInt ∧ t.toInt < 0) := by
    rw [Int.tmod_eq_emod]
    split
    · left; omega
    · right; rw [Int.natAbs_of_nonneg (by omega)]; omega
  show (if (t - (t / w) * w) < (0 : Int64) then ((t - ((t - (t / w) * w) + w)) + w) else ((t - (t - (t / w) * w)) + w)).toInt = _
  generalize (t - (t / w) * w) = r at hr
  by_cases c : r < (0 : Int64)
  · rw [if_pos c]
    rw [Int64.lt_iff_toInt_lt, h0] at c
    have e1 : (r + w).toInt = r.toInt + w.toInt := Jvm.Kit.i64_add (by omega) (by omega)
    have e2 : (t - (r + w)).toInt = t.toInt - (r + w).toInt := Jvm.Kit.i64_sub (by omega) (by omega)
    rw [Jvm.Kit.i64_add (by omega) (by omega), e2, e1]
    omega
  · rw [if_neg c]
    rw [Int64.lt_iff_toInt_lt, h0] at c
    have e2 : (t - r).toInt = t.toInt - r.toInt := Jvm.Kit.i64_sub (by omega) (by omega)
    rw [Jvm.Kit.i64_add (by omega) (by omega), e2]
    rcases ht with q | q
    · omega
    · omega
theorem own_same {t w : Int64} (hw : 1000 ≤ w.toInt ∧ w.toInt ≤ 2147483647000) (h1 : -4611686018427387904 ≤ t.toInt) (h2 : t.toInt ≤ 4611686018427387904) : own_fd t w * w + w = own_we t w := by
  have hs := own_start hw h1 h2
  have hr1 := Int.emod_nonneg t.toInt (b := w.toInt) (by omega)
  have hr2 := Int.emod_lt_of_pos t.toInt (b := w.toInt) (by omega)
  rw [← Int64.toInt_inj, own_we_int hw h1 h2, Jvm.Kit.i64_add (by omega) (by omega), hs]
/-- what is left of the window -/
theorem own_left {t w : Int64} (hw : 1000 ≤ w.toInt ∧ w.toInt ≤ 2147483647000) (h1 : -4611686018427387904 ≤ t.toInt) (h2 : t.toInt ≤ 4611686018427387904) : 0 < ((own_fd t w * w + w) - t).toInt ∧ ((own_fd t w * w + w) - t).toInt ≤ 2147483647000 := by
  have hs := own_start hw h1 h2
  have hr1 := Int.emod_nonneg t.toInt (b := w.toInt) (by omega)
  have hr2 := Int.emod_lt_of_pos t.toInt (b := w.toInt) (by omega)
  have e := Jvm.Kit.i64_add (x := own_fd t w * w) (y := w) (by omega) (by omega)
  rw [Jvm.Kit.i64_sub (by omega) (by omega), e, hs]
  omega
/-- Duration.ofMillis of a small positive number: no borrow, no zero -/
theorem own_ms {x : Int64} (h1 : 0 < x.toInt) (h2 : x.toInt ≤ 2147483647000) : ¬ (((x - (x / (1000 : Int64)) * (1000 : Int64)).toInt32) < (0 : Int32)) ∧ ¬ (((x / (1000 : Int64)) ||| ((((x - (x / (1000 : Int64)) * (1000 : Int64)).toInt32) * (1000000 : Int32)).toInt64)) = (0 : Int64)) ∧ ¬ ((x / (1000 : Int64)) < (0 : Int64)) := by
  have hp : (1000 : Int64).toInt = 1000 := rfl
  have h0 : (0 : Int64).toInt = 0 := rfl
  have h00 : (0 : Int32).toInt = 0 := rfl
  have hm : (1000000 : Int32).toInt = 1000000 := rfl
  have hd : (x / (1000 : Int64)).toInt = x.toInt / 1000 := by
    rw [Jvm.Kit.i64_div (by omega), hp]; exact Int.tdiv_eq_ediv_of_nonneg (by omega)
  have hr : (x - (x / (1000 : Int64)) * (1000 : Int64)).toInt = x.toInt % 1000 := by
    rw [Jvm.Kit.i64_rem, hp]; exact Int.tmod_eq_emod_of_nonneg (by omega)
  have hi := Jvm.Kit.i32_of_i64 (x := (x - (x / (1000 : Int64)) * (1000 : Int64))) (by omega) (by omega)
  rw [hr] at hi
  refine ⟨?_, ?_, ?_⟩
  · rw [Int32.lt_iff_toInt_lt, hi, h00]; omega
  · intro q
    have q2 : (x / (1000 : Int64)) = 0 ∧ ((((x - (x / (1000 : Int64)) * (1000 : Int64)).toInt32) * (1000000 : Int32)).toInt64) = 0 := by
      simp only [← Int64.toBitVec_inj, Int64.toBitVec_or] at q ⊢
      exact BitVec.or_eq_zero_iff.mp q
    have a1 := congrArg Int64.toInt q2.1
    have a2 := congrArg Int64.toInt q2.2
    rw [hd, h0] at a1
    rw [Int32.toInt_toInt64, Jvm.Kit.i32_mul (by rw [hi, hm]; omega) (by rw [hi, hm]; omega), hi, hm, h0] at a2
    omega
  · rw [Int64.lt_iff_toInt_lt, hd, h0]; omega
theorem own_strs {Z : State} {a0 : Array Value} (hw : ∀ d ∈ tables_1, d.before a0 Z = true) : ∀ a ∈ Bundle.stringAtoms, a.before a0 Z = true := by
  intro d hd
  simp only [Bundle.stringAtoms, List.mem_cons, List.not_mem_nil, or_false] at hd
  rcases hd with rfl | rfl | rfl | rfl | rfl | rfl | rfl
  · exact hw _ (List.mem_of_getElem? (i := 15) rfl)
  · exact hw _ (List.mem_of_getElem? (i := 16) rfl)
  · exact hw _ (List.mem_of_getElem? (i := 17) rfl)
  · exact hw _ (List.mem_of_getElem? (i := 18) rfl)
  · exact hw _ (List.mem_of_getElem? (i := 19) rfl)
  · exact hw _ (List.mem_of_getElem? (i := 20) rfl)
  · exact hw _ (List.mem_of_getElem? (i := 21) rfl)
theorem ef_rn2 (m : MethodId) (r0 : Addr) (r1 : Addr) : entryFrame m #[(.ref r0), (.ref r1)] 2 = mkF m 0 #[.val (.ref r0), .val (.ref r1)] [] := by first | (simp [entryFrame, mkF, argsToLocals, Value.category]; done) | rfl
theorem pn_6 : plainName "java/util/Objects" = true := by first | (simp [plainName, overriddenIn]; done) | decide +kernel
abbrev LS_RR (a0 : Addr) (a1 : Addr) : Array Slot := #[.val (.ref a0), .val (.ref a1)]
theorem d6_0 : decode jdk_31_method_11_code 0 = .ok (.aload_n 0, 1) := by decide +kernel
theorem d6_1 : decode jdk_31_method_11_code 1 = .ok (.ifnonnull 12, 3) := by decide +kernel
theorem d6_13 : decode jdk_31_method_11_code 13 = .ok (.aload_n 0, 1) := by decide +kernel
theorem d6_14 : decode jdk_31_method_11_code 14 = .ok (.areturn, 1) := by decide +kernel
def Qrn2 (Z : State) (r0 : Addr) (r1 : Addr) (h0 : Heap) (n0 : Nat) (v : Option Value) (h : Heap) (L : List Loc) : Prop := v = some (.ref r0) ∧ Fr n0 L ∧ h = h0
set_option maxRecDepth 65536 in
set_option maxHeartbeats 40000000 in
theorem rmrn2 (l : Launch) (Z : State) (a0 : Array Value) (hw : ∀ d ∈ tables_1, d.before a0 Z = true) (ws : List Jvm.Cond) (r0 : Addr) (r1 : Addr) (h0 : Heap) (n0 : Nat) (Z0 : n0 ≤ h0.size) :
    MetFree l (⟨"java/util/Objects", "requireNonNull", "(Ljava/lang/Object;Ljava/lang/String;)Ljava/lang/Object;"⟩ : MethodName) (head1 (Jvm.Cond.code (⟨"java/util/Objects", "requireNonNull", "(Ljava/lang/Object;Ljava/lang/String;)Ljava/lang/Object;"⟩ : MethodName) jdk_31_method_11_code 2 (some (.object "java/lang/Object")) :: ws) ({ frames := 0, cells := 0, slots := 0, locals := 0 } : Room)) (fun a U => a = #[(.ref r0), (.ref r1)] ∧ Z.Warmed39 U.vm ∧ U.heap = h0) (fun _ _ _ _ _ => True) (fun _ U o U' => ∃ v L, o = .returned v ∧ Qrn2 Z r0 r1 h0 n0 v U'.heap L ∧ FrameEnd U o U' L ({ frames := 0, cells := 0, slots := 0, locals := 0 } : Room).cells ({ frames := 0, cells := 0, slots := 0, locals := 0 } : Room).slots) := by
  refine MetFree.of_bodySF (plainFor_of_name pn_6) hisR ?_
  intro p e s m args below meth c s₁ Bd hml0 hP hK
  obtain ⟨rfl, hZ, hh⟩ := hP
  have hx := Bd.exec
  have hby := Bd.bytes
  have hml : c.maxLocals = 2 := hml0
  have hown : s.vm.findClass "java/util/Objects" = some m.cls := findClass_of_methodNamed Bd.named
  have hnm := (name_of_methodNamed Bd.named Bd.method).1
  have X0 : Stand p l e ({ frames := 0, cells := 0, slots := 0, locals := 0 } : Room) s m #[(.ref r0), (.ref r1)] below meth c s₁ [] 0 0 := Stand.of_body Bd
  have e0 : s₁.heap = h0 := by rw [← hh, Bd.state]; rfl
  have N0 := Fr.nil n0
  refine own_go (B := s₁.setTop (mkF m 0 (LS_RR r0 r1) [])) (fun t k => castTop (ef_rn2 m r0 r1) k) ?_
  refine own_go (B := s₁.setTop (mkF m 14 (LS_RR r0 r1) [(.ref r0)])) (fun t k => ?_) ?_
  · show Steps p.tables e below (s₁.setTop (mkF m 0 (LS_RR r0 r1) [])) _
    refine XS.aloadN X0.here hx rfl (hb hby d6_0) rfl rfl ?_
    show Steps p.tables e below (s₁.setTop (mkF m 1 (LS_RR r0 r1) [(.ref r0)])) _
    refine XS.ifnonnullYes X0.here hx rfl (pc0 := 1) (pc' := 13) rfl (hb hby d6_1) rfl (by decide) (by decide) ?_
    show Steps p.tables e below (s₁.setTop (mkF m 13 (LS_RR r0 r1) [])) _
    refine XS.aloadN X0.here hx rfl (hb hby d6_13) rfl rfl ?_
    exact k
  obtain ⟨fs, hr, hrun, hended, hW, hsame⟩ := X0.leave (v := some (.ref r0)) (fun h => by rw [Bd.returns] at h; cases h) (BodyLoose.notSynchronized Bd)
  refine ⟨_, _, ?_, hrun, hended, _, _, rfl, ?_, ⟨_, rfl⟩, hW, hsame.mono (by decide) (by decide)⟩
  · show Steps p.tables e below (s₁.setTop (mkF m 14 (LS_RR r0 r1) [(.ref r0)])) _
    exact retOut X0 hx Bd.returns rfl (Or.inr (Or.inr (Or.inr (Or.inr ⟨rfl, rfl, rfl⟩)))) (hb hby d6_14) hr
  · show Qrn2 Z r0 r1 h0 n0 _ s₁.heap _
    rw [e0]
    exact ⟨rfl, N0, rfl⟩
theorem ef_rn1 (m : MethodId) (r0 : Addr) : entryFrame m #[(.ref r0)] 1 = mkF m 0 #[.val (.ref r0)] [] := by first | (simp [entryFrame, mkF, argsToLocals, Value.category]; done) | rfl
theorem pn_25 : plainName "java/util/Objects" = true := by first | (simp [plainName, overriddenIn]; done) | decide +kernel
abbrev LS_R (a0 : Addr) : Array Slot := #[.val (.ref a0)]
theorem d25_0 : decode jdk_31_method_10_code 0 = .ok (.aload_n 0, 1) := by decide +kernel
theorem d25_1 : decode jdk_31_method_10_code 1 = .ok (.ifnonnull 11, 3) := by decide +kernel
theorem d25_12 : decode jdk_31_method_10_code 12 = .ok (.aload_n 0, 1) := by decide +kernel
theorem d25_13 : decode jdk_31_method_10_code 13 = .ok (.areturn, 1) := by decide +kernel
def Qrn1 (Z : State) (r0 : Addr) (h0 : Heap) (n0 : Nat) (v : Option Value) (h : Heap) (L : List Loc) : Prop := v = some (.ref r0) ∧ Fr n0 L ∧ h = h0
set_option maxRecDepth 65536 in
set_option maxHeartbeats 40000000 in
theorem rmrn1 (l : Launch) (Z : State) (a0 : Array Value) (hw : ∀ d ∈ tables_1, d.before a0 Z = true) (ws : List Jvm.Cond) (r0 : Addr) (h0 : Heap) (n0 : Nat) (Z0 : n0 ≤ h0.size) :
    MetFree l (⟨"java/util/Objects", "requireNonNull", "(Ljava/lang/Object;)Ljava/lang/Object;"⟩ : MethodName) (head1 (Jvm.Cond.code (⟨"java/util/Objects", "requireNonNull", "(Ljava/lang/Object;)Ljava/lang/Object;"⟩ : MethodName) jdk_31_method_10_code 1 (some (.object "java/lang/Object")) :: ws) ({ frames := 0, cells := 0, slots := 0, locals := 0 } : Room)) (fun a U => a = #[(.ref r0)] ∧ Z.Warmed39 U.vm ∧ U.heap = h0) (fun _ _ _ _ _ => True) (fun _ U o U' => ∃ v L, o = .returned v ∧ Qrn1 Z r0 h0 n0 v U'.heap L ∧ FrameEnd U o U' L ({ frames := 0, cells := 0, slots := 0, locals := 0 } : Room).cells ({ frames := 0, cells := 0, slots := 0, locals := 0 } : Room).slots) := by
  refine MetFree.of_bodySF (plainFor_of_name pn_25) hisR ?_
  intro p e s m args below meth c s₁ Bd hml0 hP hK
  obtain ⟨rfl, hZ, hh⟩ := hP
  have hx := Bd.exec
  have hby := Bd.bytes
  have hml : c.maxLocals = 1 := hml0
  have hown : s.vm.findClass "java/util/Objects" = some m.cls := findClass_of_methodNamed Bd.named
  have hnm := (name_of_methodNamed Bd.named Bd.method).1
  have X0 : Stand p l e ({ frames := 0, cells := 0, slots := 0, locals := 0 } : Room) s m #[(.ref r0)] below meth c s₁ [] 0 0 := Stand.of_body Bd
  have e0 : s₁.heap = h0 := by rw [← hh, Bd.state]; rfl
  have N0 := Fr.nil n0
  refine own_go (B := s₁.setTop (mkF m 0 (LS_R r0) [])) (fun t k => castTop (ef_rn1 m r0) k) ?_
  refine own_go (B := s₁.setTop (mkF m 13 (LS_R r0) [(.ref r0)])) (fun t k => ?_) ?_
  · show Steps p.tables e below (s₁.setTop (mkF m 0 (LS_R r0) [])) _
    refine XS.aloadN X0.here hx rfl (hb hby d25_0) rfl rfl ?_
    show Steps p.tables e below (s₁.setTop (mkF m 1 (LS_R r0) [(.ref r0)])) _
    refine XS.ifnonnullYes X0.here hx rfl (pc0 := 1) (pc' := 12) rfl (hb hby d25_1) rfl (by decide) (by decide) ?_
    show Steps p.tables e below (s₁.setTop (mkF m 12 (LS_R r0) [])) _
    refine XS.aloadN X0.here hx rfl (hb hby d25_12) rfl rfl ?_
    exact k
  obtain ⟨fs, hr, hrun, hended, hW, hsame⟩ := X0.leave (v := some (.ref r0)) (fun h => by rw [Bd.returns] at h; cases h) (BodyLoose.notSynchronized Bd)
  refine ⟨_, _, ?_, hrun, hended, _, _, rfl, ?_, ⟨_, rfl⟩, hW, hsame.mono (by decide) (by decide)⟩
  · show Steps p.tables e below (s₁.setTop (mkF m 13 (LS_R r0) [(.ref r0)])) _
    exact retOut X0 hx Bd.returns rfl (Or.inr (Or.inr (Or.inr (Or.inr ⟨rfl, rfl, rfl⟩)))) (hb hby d25_13) hr
  · show Qrn1 Z r0 h0 n0 _ s₁.heap _
    rw [e0]
    exact ⟨rfl, N0, rfl⟩
theorem ef_rec (m : MethodId) (r0 : Addr) : entryFrame m #[(.ref r0)] 1 = mkF m 0 #[.val (.ref r0)] [] := by first | (simp [entryFrame, mkF, argsToLocals, Value.category]; done) | rfl
theorem pn_4 : plainName "java/lang/Record" = true := by first | (simp [plainName, overriddenIn]; done) | decide +kernel
theorem d4_0 : decode jdk_30_method_1_code 0 = .ok (.aload_n 0, 1) := by decide +kernel
theorem d4_1 : decode jdk_30_method_1_code 1 = .ok (.invokespecial 1, 3) := by decide +kernel
theorem d4_4 : decode jdk_30_method_1_code 4 = .ok (.return_, 1) := by decide +kernel
def Qrec (Z : State) (r0 : Addr) (h0 : Heap) (n0 : Nat) (v : Option Value) (h : Heap) (L : List Loc) : Prop := v = none ∧ Fr n0 L ∧ h = h0
set_option maxRecDepth 65536 in
set_option maxHeartbeats 40000000 in
theorem rmrec (l : Launch) (Z : State) (a0 : Array Value) (hw : ∀ d ∈ tables_1, d.before a0 Z = true) (ws : List Jvm.Cond) (r0 : Addr) (h0 : Heap) (n0 : Nat) (Z0 : n0 ≤ h0.size) :
    MetFree l (⟨"java/lang/Record", "<init>", "()V"⟩ : MethodName) (head1 (Jvm.Cond.code (⟨"java/lang/Record", "<init>", "()V"⟩ : MethodName) jdk_30_method_1_code 1 none :: ws) ({ frames := 1, cells := 0, slots := 0, locals := 12 } : Room)) (fun a U => a = #[(.ref r0)] ∧ Z.Warmed39 U.vm ∧ U.heap = h0) (fun _ _ _ _ _ => True) (fun _ U o U' => ∃ v L, o = .returned v ∧ Qrec Z r0 h0 n0 v U'.heap L ∧ FrameEnd U o U' L ({ frames := 1, cells := 0, slots := 0, locals := 12 } : Room).cells ({ frames := 1, cells := 0, slots := 0, locals := 12 } : Room).slots) := by
  refine MetFree.of_bodySF (plainFor_of_name pn_4) hisR ?_
  intro p e s m args below meth c s₁ Bd hml0 hP hK
  obtain ⟨rfl, hZ, hh⟩ := hP
  have hx := Bd.exec
  have hby := Bd.bytes
  have hml : c.maxLocals = 1 := hml0
  have hown : s.vm.findClass "java/lang/Record" = some m.cls := findClass_of_methodNamed Bd.named
  have hnm := (name_of_methodNamed Bd.named Bd.method).1
  have X0 : Stand p l e ({ frames := 1, cells := 0, slots := 0, locals := 12 } : Room) s m #[(.ref r0)] below meth c s₁ [] 0 0 := Stand.of_body Bd
  have e0 : s₁.heap = h0 := by rw [← hh, Bd.state]; rfl
  have N0 := Fr.nil n0
  refine own_go (B := s₁.setTop (mkF m 0 (LS_R r0) [])) (fun t k => castTop (ef_rec m r0) k) ?_
  refine own_go (B := s₁.setTop (mkF m 1 (LS_R r0) [(.ref r0)])) (fun t k => ?_) ?_
  · show Steps p.tables e below (s₁.setTop (mkF m 0 (LS_R r0) [])) _
    refine XS.aloadN X0.here hx rfl (hb hby d4_0) rfl rfl ?_
    exact k
  obtain ⟨T1, X1, e1, st1⟩ := initO X0 hx hZ hown (hw _ (List.mem_of_getElem? (i := 41) rfl)) (hw _ (List.mem_of_getElem? (i := 42) rfl)) (hw _ (List.mem_of_getElem? (i := 43) rfl)) e0 (g := (mkF m 1 (LS_R r0) [(.ref r0)])) rfl (by rw [hml]; rfl) rfl (hb hby d4_1) (by decide) (W := 0) (by show 2 * 0 + _ ≤ _; exact Nat.le_of_eq rfl) (by decide)
  refine own_go (B := T1.setTop (mkF m 4 (LS_R r0) [])) (fun t k => st1 _ k) ?_
  obtain ⟨fs, hr, hrun, hended, hW, hsame⟩ := X1.leave (v := none) (fun _ => rfl) (BodyLoose.notSynchronized Bd)
  refine ⟨_, _, ?_, hrun, hended, _, _, rfl, ?_, ⟨_, rfl⟩, hW, hsame.mono (by decide) (by decide)⟩
  · show Steps p.tables e below (T1.setTop (mkF m 4 (LS_R r0) [])) _
    exact X1.returnOut hx Bd.returns (hb hby d4_4) hr
  · show Qrec Z r0 h0 n0 _ T1.heap _
    rw [e1]
    exact ⟨rfl, N0, rfl⟩
theorem ef_max (m : MethodId) (p0 : Int32) (p1 : Int32) : entryFrame m #[(.int p0), (.int p1)] 2 = mkF m 0 #[.val (.int p0), .val (.int p1)] [] := by first | (simp [entryFrame, mkF, argsToLocals, Value.category]; done) | rfl
theorem pn_1 : plainFor (⟨"java/lang/Math", "max", "(II)I"⟩ : MethodName) = true := by decide +kernel
abbrev LS_II (a0 : Int32) (a1 : Int32) : Array Slot := #[.val (.int a0), .val (.int a1)]
theorem d1_0 : decode jdk_29_method_65_code 0 = .ok (.iload_n 0, 1) := by decide +kernel
theorem d1_1 : decode jdk_29_method_65_code 1 = .ok (.iload_n 1, 1) := by decide +kernel
theorem d1_2 : decode jdk_29_method_65_code 2 = .ok (.if_icmp .lt 7, 3) := by decide +kernel
theorem d1_9 : decode jdk_29_method_65_code 9 = .ok (.iload_n 1, 1) := by decide +kernel
theorem d1_10 : decode jdk_29_method_65_code 10 = .ok (.ireturn, 1) := by decide +kernel
theorem d1_5 : decode jdk_29_method_65_code 5 = .ok (.iload_n 0, 1) := by decide +kernel
theorem d1_6 : decode jdk_29_method_65_code 6 = .ok (.goto 4, 3) := by decide +kernel
def Qmax (Z : State) (p0 : Int32) (p1 : Int32) (h0 : Heap) (n0 : Nat) (v : Option Value) (h : Heap) (L : List Loc) : Prop := v = some (.int (if p0 < p1 then p1 else p0)) ∧ Fr n0 L ∧ h = h0
set_option maxRecDepth 65536 in
set_option maxHeartbeats 40000000 in
theorem rmmax (l : Launch) (Z : State) (a0 : Array Value) (hw : ∀ d ∈ tables_1, d.before a0 Z = true) (ws : List Jvm.Cond) (p0 : Int32) (p1 : Int32) (h0 : Heap) (n0 : Nat) (Z0 : n0 ≤ h0.size) :
    MetFree l (⟨"java/lang/Math", "max", "(II)I"⟩ : MethodName) (head1 (Jvm.Cond.code (⟨"java/lang/Math", "max", "(II)I"⟩ : MethodName) jdk_29_method_65_code 2 (some .int) :: ws) ({ frames := 0, cells := 0, slots := 0, locals := 0 } : Room)) (fun a U => a = #[(.int p0), (.int p1)] ∧ Z.Warmed39 U.vm ∧ U.heap = h0) (fun _ _ _ _ _ => True) (fun _ U o U' => ∃ v L, o = .returned v ∧ Qmax Z p0 p1 h0 n0 v U'.heap L ∧ FrameEnd U o U' L ({ frames := 0, cells := 0, slots := 0, locals := 0 } : Room).cells ({ frames := 0, cells := 0, slots := 0, locals := 0 } : Room).slots) := by
  refine MetFree.of_bodySF (Jvm.Free.JP.mathPlain rfl (by decide +kernel)) hisR ?_
  intro p e s m args below meth c s₁ Bd hml0 hP hK
  obtain ⟨rfl, hZ, hh⟩ := hP
  have hx := Bd.exec
  have hby := Bd.bytes
  have hml : c.maxLocals = 2 := hml0
  have hown : s.vm.findClass "java/lang/Math" = some m.cls := findClass_of_methodNamed Bd.named
  have hnm := (name_of_methodNamed Bd.named Bd.method).1
  have X0 : Stand p l e ({ frames := 0, cells := 0, slots := 0, locals := 0 } : Room) s m #[(.int p0), (.int p1)] below meth c s₁ [] 0 0 := Stand.of_body Bd
  have e0 : s₁.heap = h0 := by rw [← hh, Bd.state]; rfl
  have N0 := Fr.nil n0
  refine own_go (B := s₁.setTop (mkF m 0 (LS_II p0 p1) [])) (fun t k => castTop (ef_max m p0 p1) k) ?_
  refine own_go (B := s₁.setTop (mkF m 2 (LS_II p0 p1) [(.int p1), (.int p0)])) (fun t k => ?_) ?_
  · show Steps p.tables e below (s₁.setTop (mkF m 0 (LS_II p0 p1) [])) _
    refine XS.iloadN X0.here hx rfl (hb hby d1_0) rfl ?_
    show Steps p.tables e below (s₁.setTop (mkF m 1 (LS_II p0 p1) [(.int p0)])) _
    refine XS.iloadN X0.here hx rfl (hb hby d1_1) rfl ?_
    exact k
  by_cases hc2_1 : p0 < p1
  · refine own_go (B := s₁.setTop (mkF m 10 (LS_II p0 p1) [(.int p1)])) (fun t k => ?_) ?_
    · show Steps p.tables e below (s₁.setTop (mkF m 2 (LS_II p0 p1) [(.int p1), (.int p0)])) _
      refine XS.icmpYes X0.here hx rfl (pc0 := 2) (pc' := 9) rfl (hb hby d1_2) rfl (tlt hc2_1).1 (by decide) (by decide) ?_
      show Steps p.tables e below (s₁.setTop (mkF m 9 (LS_II p0 p1) [])) _
      refine XS.iloadN X0.here hx rfl (hb hby d1_9) rfl ?_
      exact k
    obtain ⟨fs, hr, hrun, hended, hW, hsame⟩ := X0.leave (v := some (.int p1)) (fun h => by rw [Bd.returns] at h; cases h) (BodyLoose.notSynchronized Bd)
    refine ⟨_, _, ?_, hrun, hended, _, _, rfl, ?_, ⟨_, rfl⟩, hW, hsame.mono (by decide) (by decide)⟩
    · show Steps p.tables e below (s₁.setTop (mkF m 10 (LS_II p0 p1) [(.int p1)])) _
      exact retOut X0 hx Bd.returns rfl (Or.inl ⟨rfl, Or.inl rfl, _, rfl⟩) (hb hby d1_10) hr
    · show Qmax Z p0 p1 h0 n0 _ s₁.heap _
      rw [e0]
      exact ⟨by rw [if_pos hc2_1], N0, rfl⟩
  · refine own_go (B := s₁.setTop (mkF m 10 (LS_II p0 p1) [(.int p0)])) (fun t k => ?_) ?_
    · show Steps p.tables e below (s₁.setTop (mkF m 2 (LS_II p0 p1) [(.int p1), (.int p0)])) _
      refine XS.icmpNo X0.here hx rfl (hb hby d1_2) rfl (flt hc2_1).1 ?_
      show Steps p.tables e below (s₁.setTop (mkF m 5 (LS_II p0 p1) [])) _
      refine XS.iloadN X0.here hx rfl (hb hby d1_5) rfl ?_
      show Steps p.tables e below (s₁.setTop (mkF m 6 (LS_II p0 p1) [(.int p0)])) _
      refine XS.goto X0.here hx rfl (pc0 := 6) (pc' := 10) rfl (hb hby d1_6) (by decide) (by decide) ?_
      exact k
    obtain ⟨fs, hr, hrun, hended, hW, hsame⟩ := X0.leave (v := some (.int p0)) (fun h => by rw [Bd.returns] at h; cases h) (BodyLoose.notSynchronized Bd)
    refine ⟨_, _, ?_, hrun, hended, _, _, rfl, ?_, ⟨_, rfl⟩, hW, hsame.mono (by decide) (by decide)⟩
    · show Steps p.tables e below (s₁.setTop (mkF m 10 (LS_II p0 p1) [(.int p0)])) _
      exact retOut X0 hx Bd.returns rfl (Or.inl ⟨rfl, Or.inl rfl, _, rfl⟩) (hb hby d1_10) hr
    · show Qmax Z p0 p1 h0 n0 _ s₁.heap _
      rw [e0]
      exact ⟨by rw [if_neg hc2_1], N0, rfl⟩
theorem ef_gtimeWindowSec (m : MethodId) (r0 : Addr) : entryFrame m #[(.ref r0)] 1 = mkF m 0 #[.val (.ref r0)] [] := by first | (simp [entryFrame, mkF, argsToLocals, Value.category]; done) | rfl
theorem pn_10 : plainName "com/example/blend2/blend2/Rule" = true := by first | (simp [plainName, overriddenIn]; done) | decide +kernel
theorem d10_0 : decode prog_10_method_8_code 0 = .ok (.aload_n 0, 1) := by decide +kernel
theorem d10_1 : decode prog_10_method_8_code 1 = .ok (.getfield 38, 3) := by decide +kernel
theorem d10_4 : decode prog_10_method_8_code 4 = .ok (.ireturn, 1) := by decide +kernel
def QgtimeWindowSec (Z : State) (r0 : Addr) (p1 : Int32) (h0 : Heap) (n0 : Nat) (v : Option Value) (h : Heap) (L : List Loc) : Prop := v = some (.int p1) ∧ Fr n0 L ∧ h = h0
set_option maxRecDepth 65536 in
set_option maxHeartbeats 40000000 in
theorem rmgtimeWindowSec (l : Launch) (Z : State) (a0 : Array Value) (hw : ∀ d ∈ tables_1, d.before a0 Z = true) (ws : List Jvm.Cond) (r0 : Addr) (p1 : Int32) (h0 : Heap) (n0 : Nat) (Z0 : n0 ≤ h0.size) (F0 : Fld Z h0 r0 "com/example/blend2/blend2/Rule" "timeWindowSec" "I" (.int p1)) :
    MetFree l (⟨"com/example/blend2/blend2/Rule", "timeWindowSec", "()I"⟩ : MethodName) (head1 (Jvm.Cond.code (⟨"com/example/blend2/blend2/Rule", "timeWindowSec", "()I"⟩ : MethodName) prog_10_method_8_code 1 (some .int) :: ws) ({ frames := 0, cells := 0, slots := 0, locals := 0 } : Room)) (fun a U => a = #[(.ref r0)] ∧ Z.Warmed39 U.vm ∧ U.heap = h0) (fun _ _ _ _ _ => True) (fun _ U o U' => ∃ v L, o = .returned v ∧ QgtimeWindowSec Z r0 p1 h0 n0 v U'.heap L ∧ FrameEnd U o U' L ({ frames := 0, cells := 0, slots := 0, locals := 0 } : Room).cells ({ frames := 0, cells := 0, slots := 0, locals := 0 } : Room).slots) := by
  refine MetFree.of_bodySF (plainFor_of_name pn_10) hisR ?_
  intro p e s m args below meth c s₁ Bd hml0 hP hK
  obtain ⟨rfl, hZ, hh⟩ := hP
  have hx := Bd.exec
  have hby := Bd.bytes
  have hml : c.maxLocals = 1 := hml0
  have hown : s.vm.findClass "com/example/blend2/blend2/Rule" = some m.cls := findClass_of_methodNamed Bd.named
  have hnm := (name_of_methodNamed Bd.named Bd.method).1
  have X0 : Stand p l e ({ frames := 0, cells := 0, slots := 0, locals := 0 } : Room) s m #[(.ref r0)] below meth c s₁ [] 0 0 := Stand.of_body Bd
  have e0 : s₁.heap = h0 := by rw [← hh, Bd.state]; rfl
  have N0 := Fr.nil n0
  refine own_go (B := s₁.setTop (mkF m 0 (LS_R r0) [])) (fun t k => castTop (ef_gtimeWindowSec m r0) k) ?_
  refine own_go (B := s₁.setTop (mkF m 1 (LS_R r0) [(.ref r0)])) (fun t k => ?_) ?_
  · show Steps p.tables e below (s₁.setTop (mkF m 0 (LS_R r0) [])) _
    refine XS.aloadN X0.here hx rfl (hb hby d10_0) rfl rfl ?_
    exact k
  obtain ⟨T1, X1, e1, st1⟩ := getF X0 hx hZ hown (host := "") (Or.inl (hw _ (List.mem_of_getElem? (i := 55) rfl))) Via.refl e0 F0 (g := (mkF m 1 (LS_R r0) [(.ref r0)])) rfl rfl (hb hby d10_1)
  refine own_go (B := T1.setTop (mkF m 4 (LS_R r0) [(.int p1)])) (fun t k => st1 _ k) ?_
  obtain ⟨fs, hr, hrun, hended, hW, hsame⟩ := X1.leave (v := some (.int p1)) (fun h => by rw [Bd.returns] at h; cases h) (BodyLoose.notSynchronized Bd)
  refine ⟨_, _, ?_, hrun, hended, _, _, rfl, ?_, ⟨_, rfl⟩, hW, hsame.mono (by decide) (by decide)⟩
  · show Steps p.tables e below (T1.setTop (mkF m 4 (LS_R r0) [(.int p1)])) _
    exact retOut X1 hx Bd.returns rfl (Or.inl ⟨rfl, Or.inl rfl, _, rfl⟩) (hb hby d10_4) hr
  · show QgtimeWindowSec Z r0 p1 h0 n0 _ T1.heap _
    rw [e1]
    exact ⟨rfl, N0, rfl⟩
theorem ef_gcapacity (m : MethodId) (r0 : Addr) : entryFrame m #[(.ref r0)] 1 = mkF m 0 #[.val (.ref r0)] [] := by first | (simp [entryFrame, mkF, argsToLocals, Value.category]; done) | rfl
theorem pn_16 : plainName "com/example/blend2/blend2/Rule" = true := by first | (simp [plainName, overriddenIn]; done) | decide +kernel
theorem d16_0 : decode prog_10_method_7_code 0 = .ok (.aload_n 0, 1) := by decide +kernel
theorem d16_1 : decode prog_10_method_7_code 1 = .ok (.getfield 34, 3) := by decide +kernel
theorem d16_4 : decode prog_10_method_7_code 4 = .ok (.ireturn, 1) := by decide +kernel
def Qgcapacity (Z : State) (r0 : Addr) (p1 : Int32) (h0 : Heap) (n0 : Nat) (v : Option Value) (h : Heap) (L : List Loc) : Prop := v = some (.int p1) ∧ Fr n0 L ∧ h = h0
set_option maxRecDepth 65536 in
set_option maxHeartbeats 40000000 in
theorem rmgcapacity (l : Launch) (Z : State) (a0 : Array Value) (hw : ∀ d ∈ tables_1, d.before a0 Z = true) (ws : List Jvm.Cond) (r0 : Addr) (p1 : Int32) (h0 : Heap) (n0 : Nat) (Z0 : n0 ≤ h0.size) (F0 : Fld Z h0 r0 "com/example/blend2/blend2/Rule" "capacity" "I" (.int p1)) :
    MetFree l (⟨"com/example/blend2/blend2/Rule", "capacity", "()I"⟩ : MethodName) (head1 (Jvm.Cond.code (⟨"com/example/blend2/blend2/Rule", "capacity", "()I"⟩ : MethodName) prog_10_method_7_code 1 (some .int) :: ws) ({ frames := 0, cells := 0, slots := 0, locals := 0 } : Room)) (fun a U => a = #[(.ref r0)] ∧ Z.Warmed39 U.vm ∧ U.heap = h0) (fun _ _ _ _ _ => True) (fun _ U o U' => ∃ v L, o = .returned v ∧ Qgcapacity Z r0 p1 h0 n0 v U'.heap L ∧ FrameEnd U o U' L ({ frames := 0, cells := 0, slots := 0, locals := 0 } : Room).cells ({ frames := 0, cells := 0, slots := 0, locals := 0 } : Room).slots) := by
  refine MetFree.of_bodySF (plainFor_of_name pn_16) hisR ?_
  intro p e s m args below meth c s₁ Bd hml0 hP hK
  obtain ⟨rfl, hZ, hh⟩ := hP
  have hx := Bd.exec
  have hby := Bd.bytes
  have hml : c.maxLocals = 1 := hml0
  have hown : s.vm.findClass "com/example/blend2/blend2/Rule" = some m.cls := findClass_of_methodNamed Bd.named
  have hnm := (name_of_methodNamed Bd.named Bd.method).1
  have X0 : Stand p l e ({ frames := 0, cells := 0, slots := 0, locals := 0 } : Room) s m #[(.ref r0)] below meth c s₁ [] 0 0 := Stand.of_body Bd
  have e0 : s₁.heap = h0 := by rw [← hh, Bd.state]; rfl
  have N0 := Fr.nil n0
  refine own_go (B := s₁.setTop (mkF m 0 (LS_R r0) [])) (fun t k => castTop (ef_gcapacity m r0) k) ?_
  refine own_go (B := s₁.setTop (mkF m 1 (LS_R r0) [(.ref r0)])) (fun t k => ?_) ?_
  · show Steps p.tables e below (s₁.setTop (mkF m 0 (LS_R r0) [])) _
    refine XS.aloadN X0.here hx rfl (hb hby d16_0) rfl rfl ?_
    exact k
  obtain ⟨T1, X1, e1, st1⟩ := getF X0 hx hZ hown (host := "") (Or.inl (hw _ (List.mem_of_getElem? (i := 53) rfl))) Via.refl e0 F0 (g := (mkF m 1 (LS_R r0) [(.ref r0)])) rfl rfl (hb hby d16_1)
  refine own_go (B := T1.setTop (mkF m 4 (LS_R r0) [(.int p1)])) (fun t k => st1 _ k) ?_
  obtain ⟨fs, hr, hrun, hended, hW, hsame⟩ := X1.leave (v := some (.int p1)) (fun h => by rw [Bd.returns] at h; cases h) (BodyLoose.notSynchronized Bd)
  refine ⟨_, _, ?_, hrun, hended, _, _, rfl, ?_, ⟨_, rfl⟩, hW, hsame.mono (by decide) (by decide)⟩
  · show Steps p.tables e below (T1.setTop (mkF m 4 (LS_R r0) [(.int p1)])) _
    exact retOut X1 hx Bd.returns rfl (Or.inl ⟨rfl, Or.inl rfl, _, rfl⟩) (hb hby d16_4) hr
  · show Qgcapacity Z r0 p1 h0 n0 _ T1.heap _
    rw [e1]
    exact ⟨rfl, N0, rfl⟩
theorem ef_neg (m : MethodId) (r0 : Addr) : entryFrame m #[(.ref r0)] 1 = mkF m 0 #[.val (.ref r0)] [] := by first | (simp [entryFrame, mkF, argsToLocals, Value.category]; done) | rfl
theorem pn_28 : plainName "java/time/Duration" = true := by first | (simp [plainName, overriddenIn]; done) | decide +kernel
theorem d28_0 : decode jdk_2316_method_22_code 0 = .ok (.aload_n 0, 1) := by decide +kernel
theorem d28_1 : decode jdk_2316_method_22_code 1 = .ok (.getfield 221, 3) := by decide +kernel
theorem d28_4 : decode jdk_2316_method_22_code 4 = .ok (.lconst 0, 1) := by decide +kernel
theorem d28_5 : decode jdk_2316_method_22_code 5 = .ok (.lcmp, 1) := by decide +kernel
theorem d28_6 : decode jdk_2316_method_22_code 6 = .ok (.ifCond .ge 7, 3) := by decide +kernel
theorem d28_13 : decode jdk_2316_method_22_code 13 = .ok (.iconst 0, 1) := by decide +kernel
theorem d28_14 : decode jdk_2316_method_22_code 14 = .ok (.ireturn, 1) := by decide +kernel
def Qneg (Z : State) (r0 : Addr) (q1 : Int64) (h0 : Heap) (n0 : Nat) (v : Option Value) (h : Heap) (L : List Loc) : Prop := v = some (.int (0 : Int32)) ∧ Fr n0 L ∧ h = h0
set_option maxRecDepth 65536 in
set_option maxHeartbeats 40000000 in
theorem rmneg (l : Launch) (Z : State) (a0 : Array Value) (hw : ∀ d ∈ tables_1, d.before a0 Z = true) (ws : List Jvm.Cond) (r0 : Addr) (q1 : Int64) (h0 : Heap) (n0 : Nat) (Z0 : n0 ≤ h0.size) (F0 : Fld Z h0 r0 "java/time/Duration" "seconds" "J" (.long q1)) (hq : ¬ (q1 < (0 : Int64))) :
    MetFree l (⟨"java/time/Duration", "isNegative", "()Z"⟩ : MethodName) (head1 (Jvm.Cond.code (⟨"java/time/Duration", "isNegative", "()Z"⟩ : MethodName) jdk_2316_method_22_code 1 (some .boolean) :: ws) ({ frames := 0, cells := 0, slots := 0, locals := 0 } : Room)) (fun a U => a = #[(.ref r0)] ∧ Z.Warmed39 U.vm ∧ U.heap = h0) (fun _ _ _ _ _ => True) (fun _ U o U' => ∃ v L, o = .returned v ∧ Qneg Z r0 q1 h0 n0 v U'.heap L ∧ FrameEnd U o U' L ({ frames := 0, cells := 0, slots := 0, locals := 0 } : Room).cells ({ frames := 0, cells := 0, slots := 0, locals := 0 } : Room).slots) := by
  refine MetFree.of_bodySF (plainFor_of_name pn_28) hisR ?_
  intro p e s m args below meth c s₁ Bd hml0 hP hK
  obtain ⟨rfl, hZ, hh⟩ := hP
  have hx := Bd.exec
  have hby := Bd.bytes
  have hml : c.maxLocals = 1 := hml0
  have hown : s.vm.findClass "java/time/Duration" = some m.cls := findClass_of_methodNamed Bd.named
  have hnm := (name_of_methodNamed Bd.named Bd.method).1
  have X0 : Stand p l e ({ frames := 0, cells := 0, slots := 0, locals := 0 } : Room) s m #[(.ref r0)] below meth c s₁ [] 0 0 := Stand.of_body Bd
  have e0 : s₁.heap = h0 := by rw [← hh, Bd.state]; rfl
  have N0 := Fr.nil n0
  refine own_go (B := s₁.setTop (mkF m 0 (LS_R r0) [])) (fun t k => castTop (ef_neg m r0) k) ?_
  refine own_go (B := s₁.setTop (mkF m 1 (LS_R r0) [(.ref r0)])) (fun t k => ?_) ?_
  · show Steps p.tables e below (s₁.setTop (mkF m 0 (LS_R r0) [])) _
    refine XS.aloadN X0.here hx rfl (hb hby d28_0) rfl rfl ?_
    exact k
  obtain ⟨T1, X1, e1, st1⟩ := getF X0 hx hZ hown (host := "") (Or.inl (hw _ (List.mem_of_getElem? (i := 195) rfl))) Via.refl e0 F0 (g := (mkF m 1 (LS_R r0) [(.ref r0)])) rfl rfl (hb hby d28_1)
  refine own_go (B := T1.setTop (mkF m 4 (LS_R r0) [(.long q1)])) (fun t k => st1 _ k) ?_
  refine own_go (B := T1.setTop (mkF m 14 (LS_R r0) [(.int (0 : Int32))])) (fun t k => ?_) ?_
  · show Steps p.tables e below (T1.setTop (mkF m 4 (LS_R r0) [(.long q1)])) _
    refine XS.lconst X1.here hx rfl (hb hby d28_4) ?_
    show Steps p.tables e below (T1.setTop (mkF m 5 (LS_R r0) [(.long (0 : Int64)), (.long q1)])) _
    refine XS.lcmp X1.here hx rfl (hb hby d28_5) rfl ?_
    show Steps p.tables e below (T1.setTop (mkF m 6 (LS_R r0) [(.int (lcmpW q1 (0 : Int64)))])) _
    refine XS.ifYes X1.here hx rfl (pc0 := 6) (pc' := 13) rfl (hb hby d28_6) rfl ((if0 _ _).trans (flt (fun q => hq ((lw_lt q1 (0 : Int64)).mp q))).2.1) (by decide) (by decide) ?_
    show Steps p.tables e below (T1.setTop (mkF m 13 (LS_R r0) [])) _
    refine XS.iconst X1.here hx rfl (hb hby d28_13) ?_
    exact k
  obtain ⟨fs, hr, hrun, hended, hW, hsame⟩ := X1.leave (v := some (.int (0 : Int32))) (fun h => by rw [Bd.returns] at h; cases h) (BodyLoose.notSynchronized Bd)
  refine ⟨_, _, ?_, hrun, hended, _, _, rfl, ?_, ⟨_, rfl⟩, hW, hsame.mono (by decide) (by decide)⟩
  · show Steps p.tables e below (T1.setTop (mkF m 14 (LS_R r0) [(.int (0 : Int32))])) _
    exact retN X1 hx (t := .boolean) Bd.returns (by simp) (hb hby d28_14) hr
  · show Qneg Z r0 q1 h0 n0 _ T1.heap _
    rw [e1]
    exact ⟨rfl, N0, rfl⟩
theorem ef_dui (m : MethodId) (r0 : Addr) (q1 : Int64) (p2 : Int32) : entryFrame m #[(.ref r0), (.long q1), (.int p2)] 4 = mkF m 0 #[.val (.ref r0), .val (.long q1), .second, .val (.int p2)] [] := by first | (simp [entryFrame, mkF, argsToLocals, Value.category]; done) | rfl
theorem pn_38 : plainName "java/time/Duration" = true := by first | (simp [plainName, overriddenIn]; done) | decide +kernel
abbrev LS_RJsI (a0 : Addr) (a1 : Int64) (a2 : Int32) : Array Slot := #[.val (.ref a0), .val (.long a1), .second, .val (.int a2)]
theorem d38_0 : decode jdk_2316_method_17_code 0 = .ok (.aload_n 0, 1) := by decide +kernel
theorem d38_1 : decode jdk_2316_method_17_code 1 = .ok (.invokespecial 218, 3) := by decide +kernel
theorem d38_4 : decode jdk_2316_method_17_code 4 = .ok (.aload_n 0, 1) := by decide +kernel
theorem d38_5 : decode jdk_2316_method_17_code 5 = .ok (.lload_n 1, 1) := by decide +kernel
theorem d38_6 : decode jdk_2316_method_17_code 6 = .ok (.putfield 221, 3) := by decide +kernel
theorem d38_9 : decode jdk_2316_method_17_code 9 = .ok (.aload_n 0, 1) := by decide +kernel
theorem d38_10 : decode jdk_2316_method_17_code 10 = .ok (.iload_n 3, 1) := by decide +kernel
theorem d38_11 : decode jdk_2316_method_17_code 11 = .ok (.putfield 224, 3) := by decide +kernel
theorem d38_14 : decode jdk_2316_method_17_code 14 = .ok (.return_, 1) := by decide +kernel
def Qdui (Z : State) (r0 : Addr) (q1 : Int64) (p2 : Int32) (h0 : Heap) (n0 : Nat) (v : Option Value) (h : Heap) (L : List Loc) : Prop := v = none ∧ Fr n0 L ∧ Keep h0 h [r0] ∧ Fld Z h r0 "java/time/Duration" "seconds" "J" (.long q1)
set_option maxRecDepth 65536 in
set_option maxHeartbeats 40000000 in
theorem rmdui (l : Launch) (Z : State) (a0 : Array Value) (hw : ∀ d ∈ tables_1, d.before a0 Z = true) (ws : List Jvm.Cond) (r0 : Addr) (q1 : Int64) (p2 : Int32) (h0 : Heap) (n0 : Nat) (Z0 : n0 ≤ h0.size) (E0 : Exa Z h0 r0 "java/time/Duration") (F1 : Fld Z h0 r0 "java/time/Duration" "seconds" "J" (.long (0 : Int64))) (F2 : Fld Z h0 r0 "java/time/Duration" "nanos" "I" (.int (0 : Int32))) (g_r0 : n0 ≤ r0) :
    MetFree l (⟨"java/time/Duration", "<init>", "(JI)V"⟩ : MethodName) (head1 (Jvm.Cond.code (⟨"java/time/Duration", "<init>", "(JI)V"⟩ : MethodName) jdk_2316_method_17_code 4 none :: ws) ({ frames := 1, cells := 0, slots := 0, locals := 12 } : Room)) (fun a U => a = #[(.ref r0), (.long q1), (.int p2)] ∧ Z.Warmed39 U.vm ∧ U.heap = h0) (fun _ _ _ _ _ => True) (fun _ U o U' => ∃ v L, o = .returned v ∧ Qdui Z r0 q1 p2 h0 n0 v U'.heap L ∧ FrameEnd U o U' L ({ frames := 1, cells := 0, slots := 0, locals := 12 } : Room).cells ({ frames := 1, cells := 0, slots := 0, locals := 12 } : Room).slots) := by
  refine MetFree.of_bodySF (plainFor_of_name pn_38) hisR ?_
  intro p e s m args below meth c s₁ Bd hml0 hP hK
  obtain ⟨rfl, hZ, hh⟩ := hP
  have hx := Bd.exec
  have hby := Bd.bytes
  have hml : c.maxLocals = 4 := hml0
  have hown : s.vm.findClass "java/time/Duration" = some m.cls := findClass_of_methodNamed Bd.named
  have hnm := (name_of_methodNamed Bd.named Bd.method).1
  have X0 : Stand p l e ({ frames := 1, cells := 0, slots := 0, locals := 12 } : Room) s m #[(.ref r0), (.long q1), (.int p2)] below meth c s₁ [] 0 0 := Stand.of_body Bd
  have e0 : s₁.heap = h0 := by rw [← hh, Bd.state]; rfl
  have N0 := Fr.nil n0
  refine own_go (B := s₁.setTop (mkF m 0 (LS_RJsI r0 q1 p2) [])) (fun t k => castTop (ef_dui m r0 q1 p2) k) ?_
  have K0 : Keep h0 h0 [r0] := Keep.refl _ _
  refine own_go (B := s₁.setTop (mkF m 1 (LS_RJsI r0 q1 p2) [(.ref r0)])) (fun t k => ?_) ?_
  · show Steps p.tables e below (s₁.setTop (mkF m 0 (LS_RJsI r0 q1 p2) [])) _
    refine XS.aloadN X0.here hx rfl (hb hby d38_0) rfl rfl ?_
    exact k
  obtain ⟨T1, X1, e1, st1⟩ := initO X0 hx hZ hown (hw _ (List.mem_of_getElem? (i := 258) rfl)) (hw _ (List.mem_of_getElem? (i := 42) rfl)) (hw _ (List.mem_of_getElem? (i := 43) rfl)) e0 (g := (mkF m 1 (LS_RJsI r0 q1 p2) [(.ref r0)])) rfl (by rw [hml]; rfl) rfl (hb hby d38_1) (by decide) (W := 0) (by show 2 * 0 + _ ≤ _; exact Nat.le_of_eq rfl) (by decide)
  refine own_go (B := T1.setTop (mkF m 4 (LS_RJsI r0 q1 p2) [])) (fun t k => st1 _ k) ?_
  refine own_go (B := T1.setTop (mkF m 6 (LS_RJsI r0 q1 p2) [(.long q1), (.ref r0)])) (fun t k => ?_) ?_
  · show Steps p.tables e below (T1.setTop (mkF m 4 (LS_RJsI r0 q1 p2) [])) _
    refine XS.aloadN X1.here hx rfl (hb hby d38_4) rfl rfl ?_
    show Steps p.tables e below (T1.setTop (mkF m 5 (LS_RJsI r0 q1 p2) [(.ref r0)])) _
    refine XS.lloadN X1.here hx rfl (hb hby d38_5) rfl ?_
    exact k
  obtain ⟨T2, h2, X2, e2, W2, st2⟩ := putF X1 hx hZ hown (host := "") (Or.inl (hw _ (List.mem_of_getElem? (i := 195) rfl))) Via.refl e1 F1 E0 (Or.inr ⟨(hw _ (List.mem_of_getElem? (i := 196) rfl)), rfl, hnm⟩) (hw _ (List.mem_of_getElem? (i := 253) rfl)) (ty := .long) (by decide) rfl rfl (g := (mkF m 6 (LS_RJsI r0 q1 p2) [(.long q1), (.ref r0)])) rfl rfl (hb hby d38_6)
  have N2 := Fr.snoc X2 N0 g_r0
  have Fw2 := F1.same W2
  refine own_go (B := T2.setTop (mkF m 9 (LS_RJsI r0 q1 p2) [])) (fun t k => st2 _ k) ?_
  refine own_go (B := T2.setTop (mkF m 11 (LS_RJsI r0 q1 p2) [(.int p2), (.ref r0)])) (fun t k => ?_) ?_
  · show Steps p.tables e below (T2.setTop (mkF m 9 (LS_RJsI r0 q1 p2) [])) _
    refine XS.aloadN X2.here hx rfl (hb hby d38_9) rfl rfl ?_
    show Steps p.tables e below (T2.setTop (mkF m 10 (LS_RJsI r0 q1 p2) [(.ref r0)])) _
    refine XS.iloadN X2.here hx rfl (hb hby d38_10) rfl ?_
    exact k
  have E0_v3 := E0.wr W2
  have F2_v4 := F2.other W2 (Or.inr (slot_ne (Or.inr (hw _ (List.mem_of_getElem? (i := 260) rfl))) (Or.inr (hw _ (List.mem_of_getElem? (i := 196) rfl))) (by decide) (t := .int) (t' := .long) (by decide) (by decide)))
  obtain ⟨T5, h5, X5, e5, W5, st5⟩ := putF X2 hx hZ hown (host := "") (Or.inl (hw _ (List.mem_of_getElem? (i := 259) rfl))) Via.refl e2 F2_v4 E0_v3 (Or.inr ⟨(hw _ (List.mem_of_getElem? (i := 260) rfl)), rfl, hnm⟩) (hw _ (List.mem_of_getElem? (i := 253) rfl)) (ty := .int) (by decide) rfl rfl (g := (mkF m 11 (LS_RJsI r0 q1 p2) [(.int p2), (.ref r0)])) rfl rfl (hb hby d38_11)
  have N5 := Fr.snoc X5 N2 g_r0
  have Fw5 := F2_v4.same W5
  refine own_go (B := T5.setTop (mkF m 14 (LS_RJsI r0 q1 p2) [])) (fun t k => st5 _ k) ?_
  obtain ⟨fs, hr, hrun, hended, hW, hsame⟩ := X5.leave (v := none) (fun _ => rfl) (BodyLoose.notSynchronized Bd)
  refine ⟨_, _, ?_, hrun, hended, _, _, rfl, ?_, ⟨_, rfl⟩, hW, hsame.mono (by decide) (by decide)⟩
  · show Steps p.tables e below (T5.setTop (mkF m 14 (LS_RJsI r0 q1 p2) [])) _
    exact X5.returnOut hx Bd.returns (hb hby d38_14) hr
  · show Qdui Z r0 q1 p2 h0 n0 _ T5.heap _
    rw [e5]
    have K0_v6 := K0.wr W2 (Or.inl (List.mem_of_getElem? (i := 0) rfl))
    have K0_v7 := K0_v6.wr W5 (Or.inl (List.mem_of_getElem? (i := 0) rfl))
    have Fw2_v8 := Fw2.other W5 (Or.inr (slot_ne (Or.inr (hw _ (List.mem_of_getElem? (i := 196) rfl))) (Or.inr (hw _ (List.mem_of_getElem? (i := 260) rfl))) (by decide) (t := .long) (t' := .int) (by decide) (by decide)))
    exact ⟨rfl, N5, K0_v7, Fw2_v8⟩
theorem ef_duc (m : MethodId) (q0 : Int64) (p1 : Int32) : entryFrame m #[(.long q0), (.int p1)] 3 = mkF m 0 #[.val (.long q0), .second, .val (.int p1)] [] := by first | (simp [entryFrame, mkF, argsToLocals, Value.category]; done) | rfl
theorem pn_37 : plainName "java/time/Duration" = true := by first | (simp [plainName, overriddenIn]; done) | decide +kernel
abbrev LS_JsI (a0 : Int64) (a1 : Int32) : Array Slot := #[.val (.long a0), .second, .val (.int a1)]
theorem d37_0 : decode jdk_2316_method_16_code 0 = .ok (.lload_n 0, 1) := by decide +kernel
theorem d37_1 : decode jdk_2316_method_16_code 1 = .ok (.iload_n 2, 1) := by decide +kernel
theorem d37_2 : decode jdk_2316_method_16_code 2 = .ok (.i2l, 1) := by decide +kernel
theorem d37_3 : decode jdk_2316_method_16_code 3 = .ok (.lor, 1) := by decide +kernel
theorem d37_4 : decode jdk_2316_method_16_code 4 = .ok (.lconst 0, 1) := by decide +kernel
theorem d37_5 : decode jdk_2316_method_16_code 5 = .ok (.lcmp, 1) := by decide +kernel
theorem d37_6 : decode jdk_2316_method_16_code 6 = .ok (.ifCond .ne 7, 3) := by decide +kernel
theorem d37_13 : decode jdk_2316_method_16_code 13 = .ok (.new 11, 3) := by decide +kernel
theorem d37_16 : decode jdk_2316_method_16_code 16 = .ok (.dup, 1) := by decide +kernel
theorem d37_17 : decode jdk_2316_method_16_code 17 = .ok (.lload_n 0, 1) := by decide +kernel
theorem d37_18 : decode jdk_2316_method_16_code 18 = .ok (.iload_n 2, 1) := by decide +kernel
theorem d37_19 : decode jdk_2316_method_16_code 19 = .ok (.invokespecial 215, 3) := by decide +kernel
theorem pd__JI_V : parseMethodDescriptor "(JI)V" = some ⟨[.long, .int], none⟩ := by decide +kernel
theorem d37_22 : decode jdk_2316_method_16_code 22 = .ok (.areturn, 1) := by decide +kernel
def Qduc (Z : State) (q0 : Int64) (p1 : Int32) (h0 : Heap) (n0 : Nat) (v : Option Value) (h : Heap) (L : List Loc) : Prop := ∃ r : Addr, v = some (.ref r) ∧ Fr n0 L ∧ h0.size ≤ r ∧ Keep h0 h [] ∧ Exa Z h r "java/time/Duration" ∧ Fld Z h r "java/time/Duration" "seconds" "J" (.long q0)
set_option maxRecDepth 65536 in
set_option maxHeartbeats 40000000 in
theorem rmduc (l : Launch) (Z : State) (a0 : Array Value) (hw : ∀ d ∈ tables_1, d.before a0 Z = true) (ws : List Jvm.Cond) (q0 : Int64) (p1 : Int32) (h0 : Heap) (n0 : Nat) (Z0 : n0 ≤ h0.size) (hz : ¬ ((q0 ||| (p1.toInt64)) = (0 : Int64))) :
    MetFree l (⟨"java/time/Duration", "create", "(JI)Ljava/time/Duration;"⟩ : MethodName) (head1 (Jvm.Cond.code (⟨"java/time/Duration", "create", "(JI)Ljava/time/Duration;"⟩ : MethodName) jdk_2316_method_16_code 3 (some (.object "java/time/Duration")) :: ws) ({ frames := 2, cells := 1, slots := 2, locals := 30 } : Room)) (fun a U => a = #[(.long q0), (.int p1)] ∧ Z.Warmed39 U.vm ∧ U.heap = h0) (fun _ _ _ _ _ => True) (fun _ U o U' => ∃ v L, o = .returned v ∧ Qduc Z q0 p1 h0 n0 v U'.heap L ∧ FrameEnd U o U' L ({ frames := 2, cells := 1, slots := 2, locals := 30 } : Room).cells ({ frames := 2, cells := 1, slots := 2, locals := 30 } : Room).slots) := by
  refine MetFree.of_bodySF (plainFor_of_name pn_37) hisR ?_
  intro p e s m args below meth c s₁ Bd hml0 hP hK
  obtain ⟨rfl, hZ, hh⟩ := hP
  have hx := Bd.exec
  have hby := Bd.bytes
  have hml : c.maxLocals = 3 := hml0
  have hown : s.vm.findClass "java/time/Duration" = some m.cls := findClass_of_methodNamed Bd.named
  have hnm := (name_of_methodNamed Bd.named Bd.method).1
  have X0 : Stand p l e ({ frames := 2, cells := 1, slots := 2, locals := 30 } : Room) s m #[(.long q0), (.int p1)] below meth c s₁ [] 0 0 := Stand.of_body Bd
  have e0 : s₁.heap = h0 := by rw [← hh, Bd.state]; rfl
  have N0 := Fr.nil n0
  refine own_go (B := s₁.setTop (mkF m 0 (LS_JsI q0 p1) [])) (fun t k => castTop (ef_duc m q0 p1) k) ?_
  have K0 : Keep h0 h0 [] := Keep.refl _ _
  refine own_go (B := s₁.setTop (mkF m 13 (LS_JsI q0 p1) [])) (fun t k => ?_) ?_
  · show Steps p.tables e below (s₁.setTop (mkF m 0 (LS_JsI q0 p1) [])) _
    refine XS.lloadN X0.here hx rfl (hb hby d37_0) rfl ?_
    show Steps p.tables e below (s₁.setTop (mkF m 1 (LS_JsI q0 p1) [(.long q0)])) _
    refine XS.iloadN X0.here hx rfl (hb hby d37_1) rfl ?_
    show Steps p.tables e below (s₁.setTop (mkF m 2 (LS_JsI q0 p1) [(.int p1), (.long q0)])) _
    refine XS.i2l X0.here hx rfl (hb hby d37_2) rfl ?_
    show Steps p.tables e below (s₁.setTop (mkF m 3 (LS_JsI q0 p1) [(.long (p1.toInt64)), (.long q0)])) _
    refine XS.lor X0.here hx rfl (hb hby d37_3) rfl ?_
    show Steps p.tables e below (s₁.setTop (mkF m 4 (LS_JsI q0 p1) [(.long (q0 ||| (p1.toInt64)))])) _
    refine XS.lconst X0.here hx rfl (hb hby d37_4) ?_
    show Steps p.tables e below (s₁.setTop (mkF m 5 (LS_JsI q0 p1) [(.long (0 : Int64)), (.long (q0 ||| (p1.toInt64)))])) _
    refine XS.lcmp X0.here hx rfl (hb hby d37_5) rfl ?_
    show Steps p.tables e below (s₁.setTop (mkF m 6 (LS_JsI q0 p1) [(.int (lcmpW (q0 ||| (p1.toInt64)) (0 : Int64)))])) _
    refine XS.ifYes X0.here hx rfl (pc0 := 6) (pc' := 13) rfl (hb hby d37_6) rfl ((if0 _ _).trans (feq (fun q => hz ((lw_eq (q0 ||| (p1.toInt64)) (0 : Int64)).mp q))).2) (by decide) (by decide) ?_
    exact k
  obtain ⟨T1, h1, X1, e1, E1, A1, D1, -, st1⟩ := newO X0 hx hZ hown (hw _ (List.mem_of_getElem? (i := 252) rfl)) (hw _ (List.mem_of_getElem? (i := 253) rfl)) (hw _ (List.mem_of_getElem? (i := 160) rfl)) e0 (g := (mkF m 13 (LS_JsI q0 p1) [])) rfl (hb hby d37_13) (by decide) (by decide)
  obtain ⟨b1, g1⟩ : ∃ z, z = h0.size := ⟨_, rfl⟩
  rw [← g1] at A1 D1 st1
  have g_b1 : n0 ≤ b1 := Nat.le_trans Z0 (Nat.le_of_eq g1.symm)
  have sz_b1 : h0.size ≤ b1 := Nat.le_trans K0.1 (Nat.le_of_eq g1.symm)
  have F1_seconds : Fld Z h1 b1 "java/time/Duration" "seconds" "J" (.long (0 : Int64)) := D1 (Or.inr (hw _ (List.mem_of_getElem? (i := 196) rfl))) (ty := .long) (by decide)
  have F1_nanos : Fld Z h1 b1 "java/time/Duration" "nanos" "I" (.int (0 : Int32)) := D1 (Or.inr (hw _ (List.mem_of_getElem? (i := 260) rfl))) (ty := .int) (by decide)
  refine own_go (B := T1.setTop (mkF m 16 (LS_JsI q0 p1) [(.ref b1)])) (fun t k => st1 _ k) ?_
  refine own_go (B := T1.setTop (mkF m 19 (LS_JsI q0 p1) [(.int p1), (.long q0), (.ref b1), (.ref b1)])) (fun t k => ?_) ?_
  · show Steps p.tables e below (T1.setTop (mkF m 16 (LS_JsI q0 p1) [(.ref b1)])) _
    refine XS.dup X1.here hx rfl (hb hby d37_16) rfl rfl ?_
    show Steps p.tables e below (T1.setTop (mkF m 17 (LS_JsI q0 p1) [(.ref b1), (.ref b1)])) _
    refine XS.lloadN X1.here hx rfl (hb hby d37_17) rfl ?_
    show Steps p.tables e below (T1.setTop (mkF m 18 (LS_JsI q0 p1) [(.long q0), (.ref b1), (.ref b1)])) _
    refine XS.iloadN X1.here hx rfl (hb hby d37_18) rfl ?_
    exact k
  have Z0_v2 := Nat.le_trans Z0 E1.1
  obtain ⟨_, _, ⟨T3, L3, k3, n3⟩, -, X3, ⟨Lc3, hQ3, l3, y3, z3⟩, st3⟩ := X1.specialBack hx (y := (⟨"java/time/Duration", "<init>", "(JI)V"⟩ : MethodName)) rfl hown (mvT hZ (hw _ (List.mem_of_getElem? (i := 254) rfl))) (mvT hZ (hw _ (List.mem_of_getElem? (i := 255) rfl))) (mvT hZ (hw _ (List.mem_of_getElem? (i := 257) rfl))) (by decide) (backOf (W := 1) (rmdui l Z a0 hw [] b1 q0 p1 h1 n0 Z0_v2 A1 F1_seconds F1_nanos g_b1) hZ (hw _ (List.mem_of_getElem? (i := 257) rfl)) (hw _ (List.mem_of_getElem? (i := 160) rfl)) (by decide) (by decide)) (g := (mkF m 19 (LS_JsI q0 p1) [(.int p1), (.long q0), (.ref b1), (.ref b1)])) rfl (by rw [hml]; rfl) (Steps.refl _) (a := b1) (argsL := [(.long q0), (.int p1)]) (rest := [(.ref b1)]) (lenOf pd__JI_V rfl) rfl (by show 2 * 0 + _ ≤ _; exact Nat.le_of_eq rfl) (hb hby d37_19) (fun _ _ => ⟨rfl, e1, (by decide : 1 + 0 ≤ _), (by decide : 2 + 0 ≤ _)⟩)
  dsimp only [Pt.U, Pt.locs, Pt.cells, Pt.slots] at X3 l3 y3 z3 st3 hQ3
  subst l3 y3 z3
  obtain ⟨rfl, N3q, K3, Fs3⟩ := hQ3
  have N3 := Fr.app N0 N3q
  refine own_go (B := T3.setTop (mkF m 22 (LS_JsI q0 p1) [(.ref b1)])) (fun t k => st3.trans k) ?_
  obtain ⟨fs, hr, hrun, hended, hW, hsame⟩ := X3.leave (v := some (.ref b1)) (fun h => by rw [Bd.returns] at h; cases h) (BodyLoose.notSynchronized Bd)
  refine ⟨_, _, ?_, hrun, hended, _, _, rfl, ?_, ⟨_, rfl⟩, hW, hsame.mono (by decide) (by decide)⟩
  · show Steps p.tables e below (T3.setTop (mkF m 22 (LS_JsI q0 p1) [(.ref b1)])) _
    exact retOut X3 hx Bd.returns rfl (Or.inr (Or.inr (Or.inr (Or.inr ⟨rfl, rfl, rfl⟩)))) (hb hby d37_22) hr
  · show Qduc Z q0 p1 h0 n0 _ T3.heap _
    have K0_v4 := K0.ext E1
    have K0_v5 := K0_v4.trans K3 (allS (Or.inr sz_b1) all0)
    have A1_v6 := A1.keep K3
    exact ⟨b1, rfl, N3, sz_b1, K0_v5, A1_v6, Fs3⟩
theorem ef_dum (m : MethodId) (q0 : Int64) : entryFrame m #[(.long q0)] 5 = mkF m 0 #[.val (.long q0), .second, .unset, .unset, .unset] [] := by first | (simp [entryFrame, mkF, argsToLocals, Value.category]; done) | rfl
theorem pn_36 : plainName "java/time/Duration" = true := by first | (simp [plainName, overriddenIn]; done) | decide +kernel
abbrev LS_Jsuuu (a0 : Int64) : Array Slot := #[.val (.long a0), .second, .unset, .unset, .unset]
theorem d36_0 : decode jdk_2316_method_6_code 0 = .ok (.lload_n 0, 1) := by decide +kernel
theorem d36_1 : decode jdk_2316_method_6_code 1 = .ok (.ldc2_w 28, 3) := by decide +kernel
theorem d36_4 : decode jdk_2316_method_6_code 4 = .ok (.ldiv, 1) := by decide +kernel
theorem d36_5 : decode jdk_2316_method_6_code 5 = .ok (.lstore_n 2, 1) := by decide +kernel
abbrev LS_JsJsu (a0 : Int64) (a1 : Int64) : Array Slot := #[.val (.long a0), .second, .val (.long a1), .second, .unset]
theorem d36_6 : decode jdk_2316_method_6_code 6 = .ok (.lload_n 0, 1) := by decide +kernel
theorem d36_7 : decode jdk_2316_method_6_code 7 = .ok (.ldc2_w 28, 3) := by decide +kernel
theorem d36_10 : decode jdk_2316_method_6_code 10 = .ok (.lrem, 1) := by decide +kernel
theorem d36_11 : decode jdk_2316_method_6_code 11 = .ok (.l2i, 1) := by decide +kernel
theorem d36_12 : decode jdk_2316_method_6_code 12 = .ok (.istore 4, 2) := by decide +kernel
abbrev LS_JsJsI (a0 : Int64) (a1 : Int64) (a2 : Int32) : Array Slot := #[.val (.long a0), .second, .val (.long a1), .second, .val (.int a2)]
theorem d36_14 : decode jdk_2316_method_6_code 14 = .ok (.iload 4, 2) := by decide +kernel
theorem d36_16 : decode jdk_2316_method_6_code 16 = .ok (.ifCond .ge 13, 3) := by decide +kernel
theorem d36_29 : decode jdk_2316_method_6_code 29 = .ok (.lload_n 2, 1) := by decide +kernel
theorem d36_30 : decode jdk_2316_method_6_code 30 = .ok (.iload 4, 2) := by decide +kernel
theorem d36_32 : decode jdk_2316_method_6_code 32 = .ok (.ldc 30, 2) := by decide +kernel
theorem d36_34 : decode jdk_2316_method_6_code 34 = .ok (.imul, 1) := by decide +kernel
theorem d36_35 : decode jdk_2316_method_6_code 35 = .ok (.invokestatic 10, 3) := by decide +kernel
theorem pd__JI_Ljava_time_Duration_ : parseMethodDescriptor "(JI)Ljava/time/Duration;" = some ⟨[.long, .int], some (.object "java/time/Duration")⟩ := by decide +kernel
theorem d36_38 : decode jdk_2316_method_6_code 38 = .ok (.areturn, 1) := by decide +kernel
def Qdum (Z : State) (q0 : Int64) (h0 : Heap) (n0 : Nat) (v : Option Value) (h : Heap) (L : List Loc) : Prop := ∃ r : Addr, v = some (.ref r) ∧ Fr n0 L ∧ h0.size ≤ r ∧ Keep h0 h [] ∧ Exa Z h r "java/time/Duration" ∧ Fld Z h r "java/time/Duration" "seconds" "J" (.long (q0 / (1000 : Int64)))
set_option maxRecDepth 65536 in
set_option maxHeartbeats 40000000 in
theorem rmdum (l : Launch) (Z : State) (a0 : Array Value) (hw : ∀ d ∈ tables_1, d.before a0 Z = true) (ws : List Jvm.Cond) (q0 : Int64) (h0 : Heap) (n0 : Nat) (Z0 : n0 ≤ h0.size) (hb1 : 0 < q0.toInt) (hb2 : q0.toInt ≤ 2147483647000) :
    MetFree l (⟨"java/time/Duration", "ofMillis", "(J)Ljava/time/Duration;"⟩ : MethodName) (head1 (Jvm.Cond.code (⟨"java/time/Duration", "ofMillis", "(J)Ljava/time/Duration;"⟩ : MethodName) jdk_2316_method_6_code 5 (some (.object "java/time/Duration")) :: ws) ({ frames := 3, cells := 1, slots := 2, locals := 50 } : Room)) (fun a U => a = #[(.long q0)] ∧ Z.Warmed39 U.vm ∧ U.heap = h0) (fun _ _ _ _ _ => True) (fun _ U o U' => ∃ v L, o = .returned v ∧ Qdum Z q0 h0 n0 v U'.heap L ∧ FrameEnd U o U' L ({ frames := 3, cells := 1, slots := 2, locals := 50 } : Room).cells ({ frames := 3, cells := 1, slots := 2, locals := 50 } : Room).slots) := by
  refine MetFree.of_bodySF (plainFor_of_name pn_36) hisR ?_
  intro p e s m args below meth c s₁ Bd hml0 hP hK
  obtain ⟨rfl, hZ, hh⟩ := hP
  have hx := Bd.exec
  have hby := Bd.bytes
  have hml : c.maxLocals = 5 := hml0
  have hown : s.vm.findClass "java/time/Duration" = some m.cls := findClass_of_methodNamed Bd.named
  have hnm := (name_of_methodNamed Bd.named Bd.method).1
  have X0 : Stand p l e ({ frames := 3, cells := 1, slots := 2, locals := 50 } : Room) s m #[(.long q0)] below meth c s₁ [] 0 0 := Stand.of_body Bd
  have e0 : s₁.heap = h0 := by rw [← hh, Bd.state]; rfl
  have N0 := Fr.nil n0
  refine own_go (B := s₁.setTop (mkF m 0 (LS_Jsuuu q0) [])) (fun t k => castTop (ef_dum m q0) k) ?_
  have K0 : Keep h0 h0 [] := Keep.refl _ _
  refine own_go (B := s₁.setTop (mkF m 35 (LS_JsJsI q0 (q0 / (1000 : Int64)) ((q0 - (q0 / (1000 : Int64)) * (1000 : Int64)).toInt32)) [(.int (((q0 - (q0 / (1000 : Int64)) * (1000 : Int64)).toInt32) * (1000000 : Int32))), (.long (q0 / (1000 : Int64)))])) (fun t k => ?_) ?_
  · show Steps p.tables e below (s₁.setTop (mkF m 0 (LS_Jsuuu q0) [])) _
    refine XS.lloadN X0.here hx rfl (hb hby d36_0) rfl ?_
    show Steps p.tables e below (s₁.setTop (mkF m 1 (LS_Jsuuu q0) [(.long q0)])) _
    refine X0.ldc2Long hx hown (mvT hZ (hw _ (List.mem_of_getElem? (i := 247) rfl))) (g := (mkF m 1 (LS_Jsuuu q0) [(.long q0)])) rfl (hb hby d36_1) _ ?_
    show Steps p.tables e below (s₁.setTop (mkF m 4 (LS_Jsuuu q0) [(.long (1000 : Int64)), (.long q0)])) _
    refine XS.ldiv X0.here hx rfl (hb hby d36_4) rfl (by decide) ?_
    show Steps p.tables e below (s₁.setTop (mkF m 5 (LS_Jsuuu q0) [(.long (q0 / (1000 : Int64)))])) _
    refine XS.lstoreN X0.here hx rfl (hb hby d36_5) rfl (l' := (LS_JsJsu q0 (q0 / (1000 : Int64)))) rfl ?_
    show Steps p.tables e below (s₁.setTop (mkF m 6 (LS_JsJsu q0 (q0 / (1000 : Int64))) [])) _
    refine XS.lloadN X0.here hx rfl (hb hby d36_6) rfl ?_
    show Steps p.tables e below (s₁.setTop (mkF m 7 (LS_JsJsu q0 (q0 / (1000 : Int64))) [(.long q0)])) _
    refine X0.ldc2Long hx hown (mvT hZ (hw _ (List.mem_of_getElem? (i := 247) rfl))) (g := (mkF m 7 (LS_JsJsu q0 (q0 / (1000 : Int64))) [(.long q0)])) rfl (hb hby d36_7) _ ?_
    show Steps p.tables e below (s₁.setTop (mkF m 10 (LS_JsJsu q0 (q0 / (1000 : Int64))) [(.long (1000 : Int64)), (.long q0)])) _
    refine XS.lrem X0.here hx rfl (hb hby d36_10) rfl (by decide) ?_
    show Steps p.tables e below (s₁.setTop (mkF m 11 (LS_JsJsu q0 (q0 / (1000 : Int64))) [(.long (q0 - (q0 / (1000 : Int64)) * (1000 : Int64)))])) _
    refine XS.l2i X0.here hx rfl (hb hby d36_11) rfl ?_
    show Steps p.tables e below (s₁.setTop (mkF m 12 (LS_JsJsu q0 (q0 / (1000 : Int64))) [(.int ((q0 - (q0 / (1000 : Int64)) * (1000 : Int64)).toInt32))])) _
    refine XS.istore X0.here hx rfl (hb hby d36_12) rfl (l' := (LS_JsJsI q0 (q0 / (1000 : Int64)) ((q0 - (q0 / (1000 : Int64)) * (1000 : Int64)).toInt32))) rfl ?_
    show Steps p.tables e below (s₁.setTop (mkF m 14 (LS_JsJsI q0 (q0 / (1000 : Int64)) ((q0 - (q0 / (1000 : Int64)) * (1000 : Int64)).toInt32)) [])) _
    refine XS.iload X0.here hx rfl (hb hby d36_14) rfl ?_
    show Steps p.tables e below (s₁.setTop (mkF m 16 (LS_JsJsI q0 (q0 / (1000 : Int64)) ((q0 - (q0 / (1000 : Int64)) * (1000 : Int64)).toInt32)) [(.int ((q0 - (q0 / (1000 : Int64)) * (1000 : Int64)).toInt32))])) _
    refine XS.ifYes X0.here hx rfl (pc0 := 16) (pc' := 29) rfl (hb hby d36_16) rfl ((if0 _ _).trans (flt (own_ms hb1 hb2).1).2.1) (by decide) (by decide) ?_
    show Steps p.tables e below (s₁.setTop (mkF m 29 (LS_JsJsI q0 (q0 / (1000 : Int64)) ((q0 - (q0 / (1000 : Int64)) * (1000 : Int64)).toInt32)) [])) _
    refine XS.lloadN X0.here hx rfl (hb hby d36_29) rfl ?_
    show Steps p.tables e below (s₁.setTop (mkF m 30 (LS_JsJsI q0 (q0 / (1000 : Int64)) ((q0 - (q0 / (1000 : Int64)) * (1000 : Int64)).toInt32)) [(.long (q0 / (1000 : Int64)))])) _
    refine XS.iload X0.here hx rfl (hb hby d36_30) rfl ?_
    show Steps p.tables e below (s₁.setTop (mkF m 32 (LS_JsJsI q0 (q0 / (1000 : Int64)) ((q0 - (q0 / (1000 : Int64)) * (1000 : Int64)).toInt32)) [(.int ((q0 - (q0 / (1000 : Int64)) * (1000 : Int64)).toInt32)), (.long (q0 / (1000 : Int64)))])) _
    refine X0.ldcInt hx hown (mvT hZ (hw _ (List.mem_of_getElem? (i := 248) rfl))) (g := (mkF m 32 (LS_JsJsI q0 (q0 / (1000 : Int64)) ((q0 - (q0 / (1000 : Int64)) * (1000 : Int64)).toInt32)) [(.int ((q0 - (q0 / (1000 : Int64)) * (1000 : Int64)).toInt32)), (.long (q0 / (1000 : Int64)))])) rfl (hb hby d36_32) _ ?_
    show Steps p.tables e below (s₁.setTop (mkF m 34 (LS_JsJsI q0 (q0 / (1000 : Int64)) ((q0 - (q0 / (1000 : Int64)) * (1000 : Int64)).toInt32)) [(.int (1000000 : Int32)), (.int ((q0 - (q0 / (1000 : Int64)) * (1000 : Int64)).toInt32)), (.long (q0 / (1000 : Int64)))])) _
    refine XS.imul X0.here hx rfl (hb hby d36_34) rfl ?_
    exact k
  obtain ⟨_, _, ⟨T1, L1, k1, n1⟩, -, X1, ⟨Lc1, hQ1, l1, y1, z1⟩, st1⟩ := Jvm.LawKit.callS X0 hx (y := (⟨"java/time/Duration", "create", "(JI)Ljava/time/Duration;"⟩ : MethodName)) hown (mvT hZ (hw _ (List.mem_of_getElem? (i := 249) rfl))) (mvT hZ (hw _ (List.mem_of_getElem? (i := 250) rfl))) (mvT hZ (hw _ (List.mem_of_getElem? (i := 160) rfl))) (mvT hZ (hw _ (List.mem_of_getElem? (i := 251) rfl))) (by decide) (backOf (W := 0) (rmduc l Z a0 hw [] (q0 / (1000 : Int64)) (((q0 - (q0 / (1000 : Int64)) * (1000 : Int64)).toInt32) * (1000000 : Int32)) h0 n0 Z0 (own_ms hb1 hb2).2.1) hZ (hw _ (List.mem_of_getElem? (i := 251) rfl)) (hw _ (List.mem_of_getElem? (i := 160) rfl)) (by decide) (by decide)) (g := (mkF m 35 (LS_JsJsI q0 (q0 / (1000 : Int64)) ((q0 - (q0 / (1000 : Int64)) * (1000 : Int64)).toInt32)) [(.int (((q0 - (q0 / (1000 : Int64)) * (1000 : Int64)).toInt32) * (1000000 : Int32))), (.long (q0 / (1000 : Int64)))])) rfl (by rw [hml]; rfl) (argsL := [(.long (q0 / (1000 : Int64))), (.int (((q0 - (q0 / (1000 : Int64)) * (1000 : Int64)).toInt32) * (1000000 : Int32)))]) (rest := []) (lenOf pd__JI_Ljava_time_Duration_ rfl) rfl (by show 2 * 0 + _ ≤ _; exact Nat.le_of_eq rfl) (hb hby d36_35) (fun _ _ => ⟨rfl, e0, (by decide : 0 + 1 ≤ _), (by decide : 0 + 2 ≤ _)⟩)
  dsimp only [Pt.U, Pt.locs, Pt.cells, Pt.slots] at X1 l1 y1 z1 st1 hQ1
  subst l1 y1 z1
  obtain ⟨o1, rfl, N1q, hfr1, K1, Ef1, Fs1⟩ := hQ1
  have N1 := Fr.app N0 N1q
  have g_o1 : n0 ≤ o1 := Nat.le_trans Z0 hfr1
  have sz_o1 : h0.size ≤ o1 := Nat.le_trans K0.1 hfr1
  refine own_go (B := T1.setTop (mkF m 38 (LS_JsJsI q0 (q0 / (1000 : Int64)) ((q0 - (q0 / (1000 : Int64)) * (1000 : Int64)).toInt32)) [(.ref o1)])) (fun t k => st1 _ k) ?_
  obtain ⟨fs, hr, hrun, hended, hW, hsame⟩ := X1.leave (v := some (.ref o1)) (fun h => by rw [Bd.returns] at h; cases h) (BodyLoose.notSynchronized Bd)
  refine ⟨_, _, ?_, hrun, hended, _, _, rfl, ?_, ⟨_, rfl⟩, hW, hsame.mono (by decide) (by decide)⟩
  · show Steps p.tables e below (T1.setTop (mkF m 38 (LS_JsJsI q0 (q0 / (1000 : Int64)) ((q0 - (q0 / (1000 : Int64)) * (1000 : Int64)).toInt32)) [(.ref o1)])) _
    exact retOut X1 hx Bd.returns rfl (Or.inr (Or.inr (Or.inr (Or.inr ⟨rfl, rfl, rfl⟩)))) (hb hby d36_38) hr
  · show Qdum Z q0 h0 n0 _ T1.heap _
    have K0_v2 := K0.trans K1 all0
    exact ⟨o1, rfl, N1, sz_o1, K0_v2, Ef1, Fs1⟩
theorem ef_opi (m : MethodId) (r0 : Addr) (r1 : Addr) : entryFrame m #[(.ref r0), (.ref r1)] 2 = mkF m 0 #[.val (.ref r0), .val (.ref r1)] [] := by first | (simp [entryFrame, mkF, argsToLocals, Value.category]; done) | rfl
theorem pn_26 : plainName "java/util/Optional" = true := by first | (simp [plainName, overriddenIn]; done) | decide +kernel
theorem d26_0 : decode jdk_32_method_2_code 0 = .ok (.aload_n 0, 1) := by decide +kernel
theorem d26_1 : decode jdk_32_method_2_code 1 = .ok (.invokespecial 7, 3) := by decide +kernel
theorem d26_4 : decode jdk_32_method_2_code 4 = .ok (.aload_n 0, 1) := by decide +kernel
theorem d26_5 : decode jdk_32_method_2_code 5 = .ok (.aload_n 1, 1) := by decide +kernel
theorem d26_6 : decode jdk_32_method_2_code 6 = .ok (.putfield 13, 3) := by decide +kernel
theorem d26_9 : decode jdk_32_method_2_code 9 = .ok (.return_, 1) := by decide +kernel
def Qopi (Z : State) (r0 : Addr) (r1 : Addr) (h0 : Heap) (n0 : Nat) (v : Option Value) (h : Heap) (L : List Loc) : Prop := v = none ∧ Fr n0 L ∧ Keep h0 h [r0]
set_option maxRecDepth 65536 in
set_option maxHeartbeats 40000000 in
theorem rmopi (l : Launch) (Z : State) (a0 : Array Value) (hw : ∀ d ∈ tables_1, d.before a0 Z = true) (ws : List Jvm.Cond) (r0 : Addr) (r1 : Addr) (h0 : Heap) (n0 : Nat) (Z0 : n0 ≤ h0.size) (E0 : Exa Z h0 r0 "java/util/Optional") (F1 : Fld Z h0 r0 "java/util/Optional" "value" "Ljava/lang/Object;" .null) (g_r0 : n0 ≤ r0) :
    MetFree l (⟨"java/util/Optional", "<init>", "(Ljava/lang/Object;)V"⟩ : MethodName) (head1 (Jvm.Cond.code (⟨"java/util/Optional", "<init>", "(Ljava/lang/Object;)V"⟩ : MethodName) jdk_32_method_2_code 2 none :: ws) ({ frames := 1, cells := 0, slots := 0, locals := 12 } : Room)) (fun a U => a = #[(.ref r0), (.ref r1)] ∧ Z.Warmed39 U.vm ∧ U.heap = h0) (fun _ _ _ _ _ => True) (fun _ U o U' => ∃ v L, o = .returned v ∧ Qopi Z r0 r1 h0 n0 v U'.heap L ∧ FrameEnd U o U' L ({ frames := 1, cells := 0, slots := 0, locals := 12 } : Room).cells ({ frames := 1, cells := 0, slots := 0, locals := 12 } : Room).slots) := by
  refine MetFree.of_bodySF (plainFor_of_name pn_26) hisR ?_
  intro p e s m args below meth c s₁ Bd hml0 hP hK
  obtain ⟨rfl, hZ, hh⟩ := hP
  have hx := Bd.exec
  have hby := Bd.bytes
  have hml : c.maxLocals = 2 := hml0
  have hown : s.vm.findClass "java/util/Optional" = some m.cls := findClass_of_methodNamed Bd.named
  have hnm := (name_of_methodNamed Bd.named Bd.method).1
  have X0 : Stand p l e ({ frames := 1, cells := 0, slots := 0, locals := 12 } : Room) s m #[(.ref r0), (.ref r1)] below meth c s₁ [] 0 0 := Stand.of_body Bd
  have e0 : s₁.heap = h0 := by rw [← hh, Bd.state]; rfl
  have N0 := Fr.nil n0
  refine own_go (B := s₁.setTop (mkF m 0 (LS_RR r0 r1) [])) (fun t k => castTop (ef_opi m r0 r1) k) ?_
  have K0 : Keep h0 h0 [r0] := Keep.refl _ _
  refine own_go (B := s₁.setTop (mkF m 1 (LS_RR r0 r1) [(.ref r0)])) (fun t k => ?_) ?_
  · show Steps p.tables e below (s₁.setTop (mkF m 0 (LS_RR r0 r1) [])) _
    refine XS.aloadN X0.here hx rfl (hb hby d26_0) rfl rfl ?_
    exact k
  obtain ⟨T1, X1, e1, st1⟩ := initO X0 hx hZ hown (hw _ (List.mem_of_getElem? (i := 179) rfl)) (hw _ (List.mem_of_getElem? (i := 42) rfl)) (hw _ (List.mem_of_getElem? (i := 43) rfl)) e0 (g := (mkF m 1 (LS_RR r0 r1) [(.ref r0)])) rfl (by rw [hml]; rfl) rfl (hb hby d26_1) (by decide) (W := 0) (by show 2 * 0 + _ ≤ _; exact Nat.le_of_eq rfl) (by decide)
  refine own_go (B := T1.setTop (mkF m 4 (LS_RR r0 r1) [])) (fun t k => st1 _ k) ?_
  refine own_go (B := T1.setTop (mkF m 6 (LS_RR r0 r1) [(.ref r1), (.ref r0)])) (fun t k => ?_) ?_
  · show Steps p.tables e below (T1.setTop (mkF m 4 (LS_RR r0 r1) [])) _
    refine XS.aloadN X1.here hx rfl (hb hby d26_4) rfl rfl ?_
    show Steps p.tables e below (T1.setTop (mkF m 5 (LS_RR r0 r1) [(.ref r0)])) _
    refine XS.aloadN X1.here hx rfl (hb hby d26_5) rfl rfl ?_
    exact k
  obtain ⟨T2, h2, X2, e2, W2, st2⟩ := putF X1 hx hZ hown (host := "") (Or.inl (hw _ (List.mem_of_getElem? (i := 180) rfl))) Via.refl e1 F1 E0 (Or.inr ⟨(hw _ (List.mem_of_getElem? (i := 181) rfl)), rfl, hnm⟩) (hw _ (List.mem_of_getElem? (i := 171) rfl)) (ty := (.object "java/lang/Object")) (by decide) rfl rfl (g := (mkF m 6 (LS_RR r0 r1) [(.ref r1), (.ref r0)])) rfl rfl (hb hby d26_6)
  have N2 := Fr.snoc X2 N0 g_r0
  have Fw2 := F1.same W2
  refine own_go (B := T2.setTop (mkF m 9 (LS_RR r0 r1) [])) (fun t k => st2 _ k) ?_
  obtain ⟨fs, hr, hrun, hended, hW, hsame⟩ := X2.leave (v := none) (fun _ => rfl) (BodyLoose.notSynchronized Bd)
  refine ⟨_, _, ?_, hrun, hended, _, _, rfl, ?_, ⟨_, rfl⟩, hW, hsame.mono (by decide) (by decide)⟩
  · show Steps p.tables e below (T2.setTop (mkF m 9 (LS_RR r0 r1) [])) _
    exact X2.returnOut hx Bd.returns (hb hby d26_9) hr
  · show Qopi Z r0 r1 h0 n0 _ T2.heap _
    rw [e2]
    have K0_v3 := K0.wr W2 (Or.inl (List.mem_of_getElem? (i := 0) rfl))
    exact ⟨rfl, N2, K0_v3⟩
theorem ef_opo (m : MethodId) (r0 : Addr) : entryFrame m #[(.ref r0)] 1 = mkF m 0 #[.val (.ref r0)] [] := by first | (simp [entryFrame, mkF, argsToLocals, Value.category]; done) | rfl
theorem pn_24 : plainName "java/util/Optional" = true := by first | (simp [plainName, overriddenIn]; done) | decide +kernel
theorem d24_0 : decode jdk_32_method_3_code 0 = .ok (.new 2, 3) := by decide +kernel
theorem d24_3 : decode jdk_32_method_3_code 3 = .ok (.dup, 1) := by decide +kernel
theorem d24_4 : decode jdk_32_method_3_code 4 = .ok (.aload_n 0, 1) := by decide +kernel
theorem d24_5 : decode jdk_32_method_3_code 5 = .ok (.invokestatic 17, 3) := by decide +kernel
theorem pd__Ljava_lang_Object__Ljava_lang_Object_ : parseMethodDescriptor "(Ljava/lang/Object;)Ljava/lang/Object;" = some ⟨[(.object "java/lang/Object")], some (.object "java/lang/Object")⟩ := by decide +kernel
theorem d24_8 : decode jdk_32_method_3_code 8 = .ok (.invokespecial 23, 3) := by decide +kernel
theorem pd__Ljava_lang_Object__V : parseMethodDescriptor "(Ljava/lang/Object;)V" = some ⟨[(.object "java/lang/Object")], none⟩ := by decide +kernel
theorem d24_11 : decode jdk_32_method_3_code 11 = .ok (.areturn, 1) := by decide +kernel
def Qopo (Z : State) (r0 : Addr) (h0 : Heap) (n0 : Nat) (v : Option Value) (h : Heap) (L : List Loc) : Prop := ∃ r : Addr, v = some (.ref r) ∧ Fr n0 L ∧ h0.size ≤ r ∧ Keep h0 h []
set_option maxRecDepth 65536 in
set_option maxHeartbeats 40000000 in
theorem rmopo (l : Launch) (Z : State) (a0 : Array Value) (hw : ∀ d ∈ tables_1, d.before a0 Z = true) (ws : List Jvm.Cond) (r0 : Addr) (h0 : Heap) (n0 : Nat) (Z0 : n0 ≤ h0.size) :
    MetFree l (⟨"java/util/Optional", "of", "(Ljava/lang/Object;)Ljava/util/Optional;"⟩ : MethodName) (head1 (Jvm.Cond.code (⟨"java/util/Optional", "of", "(Ljava/lang/Object;)Ljava/util/Optional;"⟩ : MethodName) jdk_32_method_3_code 1 (some (.object "java/util/Optional")) :: ws) ({ frames := 2, cells := 1, slots := 1, locals := 27 } : Room)) (fun a U => a = #[(.ref r0)] ∧ Z.Warmed39 U.vm ∧ U.heap = h0) (fun _ _ _ _ _ => True) (fun _ U o U' => ∃ v L, o = .returned v ∧ Qopo Z r0 h0 n0 v U'.heap L ∧ FrameEnd U o U' L ({ frames := 2, cells := 1, slots := 1, locals := 27 } : Room).cells ({ frames := 2, cells := 1, slots := 1, locals := 27 } : Room).slots) := by
  refine MetFree.of_bodySF (plainFor_of_name pn_24) hisR ?_
  intro p e s m args below meth c s₁ Bd hml0 hP hK
  obtain ⟨rfl, hZ, hh⟩ := hP
  have hx := Bd.exec
  have hby := Bd.bytes
  have hml : c.maxLocals = 1 := hml0
  have hown : s.vm.findClass "java/util/Optional" = some m.cls := findClass_of_methodNamed Bd.named
  have hnm := (name_of_methodNamed Bd.named Bd.method).1
  have X0 : Stand p l e ({ frames := 2, cells := 1, slots := 1, locals := 27 } : Room) s m #[(.ref r0)] below meth c s₁ [] 0 0 := Stand.of_body Bd
  have e0 : s₁.heap = h0 := by rw [← hh, Bd.state]; rfl
  have N0 := Fr.nil n0
  refine own_go (B := s₁.setTop (mkF m 0 (LS_R r0) [])) (fun t k => castTop (ef_opo m r0) k) ?_
  have K0 : Keep h0 h0 [] := Keep.refl _ _
  obtain ⟨T1, h1, X1, e1, E1, A1, D1, -, st1⟩ := newO X0 hx hZ hown (hw _ (List.mem_of_getElem? (i := 170) rfl)) (hw _ (List.mem_of_getElem? (i := 171) rfl)) (hw _ (List.mem_of_getElem? (i := 168) rfl)) e0 (g := (mkF m 0 (LS_R r0) [])) rfl (hb hby d24_0) (by decide) (by decide)
  obtain ⟨b1, g1⟩ : ∃ z, z = h0.size := ⟨_, rfl⟩
  rw [← g1] at A1 D1 st1
  have g_b1 : n0 ≤ b1 := Nat.le_trans Z0 (Nat.le_of_eq g1.symm)
  have sz_b1 : h0.size ≤ b1 := Nat.le_trans K0.1 (Nat.le_of_eq g1.symm)
  have F1_value : Fld Z h1 b1 "java/util/Optional" "value" "Ljava/lang/Object;" .null := D1 (Or.inr (hw _ (List.mem_of_getElem? (i := 181) rfl))) (ty := (.object "java/lang/Object")) (by decide)
  refine own_go (B := T1.setTop (mkF m 3 (LS_R r0) [(.ref b1)])) (fun t k => st1 _ k) ?_
  refine own_go (B := T1.setTop (mkF m 5 (LS_R r0) [(.ref r0), (.ref b1), (.ref b1)])) (fun t k => ?_) ?_
  · show Steps p.tables e below (T1.setTop (mkF m 3 (LS_R r0) [(.ref b1)])) _
    refine XS.dup X1.here hx rfl (hb hby d24_3) rfl rfl ?_
    show Steps p.tables e below (T1.setTop (mkF m 4 (LS_R r0) [(.ref b1), (.ref b1)])) _
    refine XS.aloadN X1.here hx rfl (hb hby d24_4) rfl rfl ?_
    exact k
  have Z0_v2 := Nat.le_trans Z0 E1.1
  obtain ⟨_, _, ⟨T3, L3, k3, n3⟩, -, X3, ⟨Lc3, hQ3, l3, y3, z3⟩, st3⟩ := Jvm.LawKit.callS X1 hx (y := (⟨"java/util/Objects", "requireNonNull", "(Ljava/lang/Object;)Ljava/lang/Object;"⟩ : MethodName)) hown (mvT hZ (hw _ (List.mem_of_getElem? (i := 172) rfl))) (mvT hZ (hw _ (List.mem_of_getElem? (i := 173) rfl))) (mvT hZ (hw _ (List.mem_of_getElem? (i := 47) rfl))) (mvT hZ (hw _ (List.mem_of_getElem? (i := 174) rfl))) (by decide) (backOf (W := 2) (rmrn1 l Z a0 hw [] r0 h1 n0 Z0_v2) hZ (hw _ (List.mem_of_getElem? (i := 174) rfl)) (hw _ (List.mem_of_getElem? (i := 47) rfl)) (by decide) (by decide)) (g := (mkF m 5 (LS_R r0) [(.ref r0), (.ref b1), (.ref b1)])) rfl (by rw [hml]; rfl) (argsL := [(.ref r0)]) (rest := [(.ref b1), (.ref b1)]) (lenOf pd__Ljava_lang_Object__Ljava_lang_Object_ rfl) rfl (by show 2 * 0 + _ ≤ _; exact Nat.le_of_eq rfl) (hb hby d24_5) (fun _ _ => ⟨rfl, e1, (by decide : 1 + 0 ≤ _), (by decide : 1 + 0 ≤ _)⟩)
  dsimp only [Pt.U, Pt.locs, Pt.cells, Pt.slots] at X3 l3 y3 z3 st3 hQ3
  subst l3 y3 z3
  obtain ⟨rfl, N3q, e3⟩ := hQ3
  have N3 := Fr.app N0 N3q
  refine own_go (B := T3.setTop (mkF m 8 (LS_R r0) [(.ref r0), (.ref b1), (.ref b1)])) (fun t k => st3 _ k) ?_
  obtain ⟨_, _, ⟨T4, L4, k4, n4⟩, -, X4, ⟨Lc4, hQ4, l4, y4, z4⟩, st4⟩ := X3.specialBack hx (y := (⟨"java/util/Optional", "<init>", "(Ljava/lang/Object;)V"⟩ : MethodName)) rfl hown (mvT hZ (hw _ (List.mem_of_getElem? (i := 175) rfl))) (mvT hZ (hw _ (List.mem_of_getElem? (i := 176) rfl))) (mvT hZ (hw _ (List.mem_of_getElem? (i := 178) rfl))) (by decide) (backOf (W := 1) (rmopi l Z a0 hw [] b1 r0 h1 n0 Z0_v2 A1 F1_value g_b1) hZ (hw _ (List.mem_of_getElem? (i := 178) rfl)) (hw _ (List.mem_of_getElem? (i := 168) rfl)) (by decide) (by decide)) (g := (mkF m 8 (LS_R r0) [(.ref r0), (.ref b1), (.ref b1)])) rfl (by rw [hml]; rfl) (Steps.refl _) (a := b1) (argsL := [(.ref r0)]) (rest := [(.ref b1)]) (lenOf pd__Ljava_lang_Object__V rfl) rfl (by show 2 * 0 + _ ≤ _; exact Nat.le_of_eq rfl) (hb hby d24_8) (fun _ _ => ⟨rfl, e3, (by decide : 1 + 0 ≤ _), (by decide : 1 + 0 ≤ _)⟩)
  dsimp only [Pt.U, Pt.locs, Pt.cells, Pt.slots] at X4 l4 y4 z4 st4 hQ4
  subst l4 y4 z4
  obtain ⟨rfl, N4q, K4⟩ := hQ4
  have N4 := Fr.app N3 N4q
  refine own_go (B := T4.setTop (mkF m 11 (LS_R r0) [(.ref b1)])) (fun t k => st4.trans k) ?_
  obtain ⟨fs, hr, hrun, hended, hW, hsame⟩ := X4.leave (v := some (.ref b1)) (fun h => by rw [Bd.returns] at h; cases h) (BodyLoose.notSynchronized Bd)
  refine ⟨_, _, ?_, hrun, hended, _, _, rfl, ?_, ⟨_, rfl⟩, hW, hsame.mono (by decide) (by decide)⟩
  · show Steps p.tables e below (T4.setTop (mkF m 11 (LS_R r0) [(.ref b1)])) _
    exact retOut X4 hx Bd.returns rfl (Or.inr (Or.inr (Or.inr (Or.inr ⟨rfl, rfl, rfl⟩)))) (hb hby d24_11) hr
  · show Qopo Z r0 h0 n0 _ T4.heap _
    have K0_v5 := K0.ext E1
    have K0_v6 := K0_v5.trans K4 (allS (Or.inr sz_b1) all0)
    exact ⟨b1, rfl, N4, sz_b1, K0_v6⟩
theorem ef_dei (m : MethodId) (r0 : Addr) (p1 : Int32) (r2 : Addr) (p3 : Int32) (r4 : Addr) (r5 : Addr) (p6 : Int32) : entryFrame m #[(.ref r0), (.int p1), (.ref r2), (.int p3), (.ref r4), (.ref r5), (.int p6)] 7 = mkF m 0 #[.val (.ref r0), .val (.int p1), .val (.ref r2), .val (.int p3), .val (.ref r4), .val (.ref r5), .val (.int p6)] [] := by first | (simp [entryFrame, mkF, argsToLocals, Value.category]; done) | rfl
theorem pn_27 : plainName "com/example/blend2/blend2/Decision" = true := by first | (simp [plainName, overriddenIn]; done) | decide +kernel
abbrev LS_RIRIRRI (a0 : Addr) (a1 : Int32) (a2 : Addr) (a3 : Int32) (a4 : Addr) (a5 : Addr) (a6 : Int32) : Array Slot := #[.val (.ref a0), .val (.int a1), .val (.ref a2), .val (.int a3), .val (.ref a4), .val (.ref a5), .val (.int a6)]
theorem d27_0 : decode prog_2_method_1_code 0 = .ok (.aload_n 0, 1) := by decide +kernel
theorem d27_1 : decode prog_2_method_1_code 1 = .ok (.invokespecial 1, 3) := by decide +kernel
theorem pd___V : parseMethodDescriptor "()V" = some ⟨[], none⟩ := by decide +kernel
theorem d27_4 : decode prog_2_method_1_code 4 = .ok (.aload_n 2, 1) := by decide +kernel
theorem d27_5 : decode prog_2_method_1_code 5 = .ok (.ldc 7, 2) := by decide +kernel
theorem d27_7 : decode prog_2_method_1_code 7 = .ok (.invokestatic 9, 3) := by decide +kernel
theorem pd__Ljava_lang_Object_Ljava_lang_String__Ljava_lang_Object_ : parseMethodDescriptor "(Ljava/lang/Object;Ljava/lang/String;)Ljava/lang/Object;" = some ⟨[(.object "java/lang/Object"), (.object "java/lang/String")], some (.object "java/lang/Object")⟩ := by decide +kernel
theorem d27_10 : decode prog_2_method_1_code 10 = .ok (.pop, 1) := by decide +kernel
theorem d27_11 : decode prog_2_method_1_code 11 = .ok (.aload 4, 2) := by decide +kernel
theorem d27_13 : decode prog_2_method_1_code 13 = .ok (.ldc 15, 2) := by decide +kernel
theorem d27_15 : decode prog_2_method_1_code 15 = .ok (.invokestatic 9, 3) := by decide +kernel
theorem d27_18 : decode prog_2_method_1_code 18 = .ok (.pop, 1) := by decide +kernel
theorem d27_19 : decode prog_2_method_1_code 19 = .ok (.aload 5, 2) := by decide +kernel
theorem d27_21 : decode prog_2_method_1_code 21 = .ok (.ldc 17, 2) := by decide +kernel
theorem d27_23 : decode prog_2_method_1_code 23 = .ok (.invokestatic 9, 3) := by decide +kernel
theorem d27_26 : decode prog_2_method_1_code 26 = .ok (.pop, 1) := by decide +kernel
theorem d27_27 : decode prog_2_method_1_code 27 = .ok (.iload_n 3, 1) := by decide +kernel
theorem d27_28 : decode prog_2_method_1_code 28 = .ok (.ifCond .ge 17, 3) := by decide +kernel
theorem d27_45 : decode prog_2_method_1_code 45 = .ok (.aload 4, 2) := by decide +kernel
theorem d27_47 : decode prog_2_method_1_code 47 = .ok (.invokevirtual 28, 3) := by decide +kernel
theorem pd___Z : parseMethodDescriptor "()Z" = some ⟨[], some .boolean⟩ := by decide +kernel
theorem d27_50 : decode prog_2_method_1_code 50 = .ok (.ifCond .eq 21, 3) := by decide +kernel
theorem d27_71 : decode prog_2_method_1_code 71 = .ok (.aload 5, 2) := by decide +kernel
theorem d27_73 : decode prog_2_method_1_code 73 = .ok (.invokevirtual 28, 3) := by decide +kernel
theorem d27_76 : decode prog_2_method_1_code 76 = .ok (.ifCond .eq 21, 3) := by decide +kernel
theorem d27_97 : decode prog_2_method_1_code 97 = .ok (.aload_n 0, 1) := by decide +kernel
theorem d27_98 : decode prog_2_method_1_code 98 = .ok (.iload_n 1, 1) := by decide +kernel
theorem d27_99 : decode prog_2_method_1_code 99 = .ok (.putfield 44, 3) := by decide +kernel
theorem d27_102 : decode prog_2_method_1_code 102 = .ok (.aload_n 0, 1) := by decide +kernel
theorem d27_103 : decode prog_2_method_1_code 103 = .ok (.aload_n 2, 1) := by decide +kernel
theorem d27_104 : decode prog_2_method_1_code 104 = .ok (.putfield 50, 3) := by decide +kernel
theorem d27_107 : decode prog_2_method_1_code 107 = .ok (.aload_n 0, 1) := by decide +kernel
theorem d27_108 : decode prog_2_method_1_code 108 = .ok (.iload_n 3, 1) := by decide +kernel
theorem d27_109 : decode prog_2_method_1_code 109 = .ok (.putfield 53, 3) := by decide +kernel
theorem d27_112 : decode prog_2_method_1_code 112 = .ok (.aload_n 0, 1) := by decide +kernel
theorem d27_113 : decode prog_2_method_1_code 113 = .ok (.aload 4, 2) := by decide +kernel
theorem d27_115 : decode prog_2_method_1_code 115 = .ok (.putfield 57, 3) := by decide +kernel
theorem d27_118 : decode prog_2_method_1_code 118 = .ok (.aload_n 0, 1) := by decide +kernel
theorem d27_119 : decode prog_2_method_1_code 119 = .ok (.aload 5, 2) := by decide +kernel
theorem d27_121 : decode prog_2_method_1_code 121 = .ok (.putfield 60, 3) := by decide +kernel
theorem d27_124 : decode prog_2_method_1_code 124 = .ok (.aload_n 0, 1) := by decide +kernel
theorem d27_125 : decode prog_2_method_1_code 125 = .ok (.iload 6, 2) := by decide +kernel
theorem d27_127 : decode prog_2_method_1_code 127 = .ok (.putfield 62, 3) := by decide +kernel
theorem d27_130 : decode prog_2_method_1_code 130 = .ok (.return_, 1) := by decide +kernel
def Qdei (Z : State) (r0 : Addr) (p1 : Int32) (r2 : Addr) (p3 : Int32) (r4 : Addr) (r5 : Addr) (p6 : Int32) (q1 q2 : Int64) (h0 : Heap) (n0 : Nat) (v : Option Value) (h : Heap) (L : List Loc) : Prop := v = none ∧ Fr n0 L ∧ Keep h0 h [r0]
set_option maxRecDepth 65536 in
set_option maxHeartbeats 40000000 in
theorem rmdei (l : Launch) (Z : State) (a0 : Array Value) (hw : ∀ d ∈ tables_1, d.before a0 Z = true) (ws : List Jvm.Cond) (r0 : Addr) (p1 : Int32) (r2 : Addr) (p3 : Int32) (r4 : Addr) (r5 : Addr) (p6 : Int32) (q1 q2 : Int64) (h0 : Heap) (n0 : Nat) (Z0 : n0 ≤ h0.size) (E0 : Exa Z h0 r0 "com/example/blend2/blend2/Decision") (F0 : Fld Z h0 r0 "com/example/blend2/blend2/Decision" "allowed" "Z" (.int (0 : Int32))) (F1 : Fld Z h0 r0 "com/example/blend2/blend2/Decision" "rule" "Ljava/util/Optional;" .null) (F2 : Fld Z h0 r0 "com/example/blend2/blend2/Decision" "remaining" "I" (.int (0 : Int32))) (F3 : Fld Z h0 r0 "com/example/blend2/blend2/Decision" "retryAfter" "Ljava/time/Duration;" .null) (F4 : Fld Z h0 r0 "com/example/blend2/blend2/Decision" "delay" "Ljava/time/Duration;" .null) (F5 : Fld Z h0 r0 "com/example/blend2/blend2/Decision" "degraded" "Z" (.int (0 : Int32))) (De1 : Fld Z h0 r4 "java/time/Duration" "seconds" "J" (.long q1)) (Xe1 : Exa Z h0 r4 "java/time/Duration") (hq1 : ¬ (q1 < (0 : Int64))) (De2 : Fld Z h0 r5 "java/time/Duration" "seconds" "J" (.long q2)) (Xe2 : Exa Z h0 r5 "java/time/Duration") (hq2 : ¬ (q2 < (0 : Int64))) (hrem : ¬ (p3 < (0 : Int32))) (g_r0 : n0 ≤ r0) :
    MetFree l (⟨"com/example/blend2/blend2/Decision", "<init>", "(ZLjava/util/Optional;ILjava/time/Duration;Ljava/time/Duration;Z)V"⟩ : MethodName) (head1 (Jvm.Cond.code (⟨"com/example/blend2/blend2/Decision", "<init>", "(ZLjava/util/Optional;ILjava/time/Duration;Ljava/time/Duration;Z)V"⟩ : MethodName) prog_2_method_1_code 7 none :: ws) ({ frames := 2, cells := 6, slots := 88, locals := 40 } : Room)) (fun a U => a = #[(.ref r0), (.int p1), (.ref r2), (.int p3), (.ref r4), (.ref r5), (.int p6)] ∧ Z.Warmed39 U.vm ∧ U.heap = h0) (fun _ _ _ _ _ => True) (fun _ U o U' => ∃ v L, o = .returned v ∧ Qdei Z r0 p1 r2 p3 r4 r5 p6 q1 q2 h0 n0 v U'.heap L ∧ ReturnedEndW U o U' L ({ frames := 2, cells := 6, slots := 88, locals := 40 } : Room).cells ({ frames := 2, cells := 6, slots := 88, locals := 40 } : Room).slots) := by
  refine MetFree.of_bodySF (plainFor_of_name pn_27) hisR ?_
  intro p e s m args below meth c s₁ Bd hml0 hP hK
  obtain ⟨rfl, hZ, hh⟩ := hP
  have hx := Bd.exec
  have hby := Bd.bytes
  have hml : c.maxLocals = 7 := hml0
  have hown : s.vm.findClass "com/example/blend2/blend2/Decision" = some m.cls := findClass_of_methodNamed Bd.named
  have hnm := (name_of_methodNamed Bd.named Bd.method).1
  have X0 : Stand p l e ({ frames := 2, cells := 6, slots := 88, locals := 40 } : Room) s m #[(.ref r0), (.int p1), (.ref r2), (.int p3), (.ref r4), (.ref r5), (.int p6)] below meth c s₁ [] 0 0 := Stand.of_body Bd
  have e0 : s₁.heap = h0 := by rw [← hh, Bd.state]; rfl
  have N0 := Fr.nil n0
  refine own_go (B := s₁.setTop (mkF m 0 (LS_RIRIRRI r0 p1 r2 p3 r4 r5 p6) [])) (fun t k => castTop (ef_dei m r0 p1 r2 p3 r4 r5 p6) k) ?_
  have hS0 : s.Since s.vm 0 := (State.WarmedH.refl s).since 0
  have hk0 : 0 ≤ Array.size h0 := Nat.zero_le _
  have K0 : Keep h0 h0 [r0] := Keep.refl _ _
  refine own_go (B := s₁.setTop (mkF m 1 (LS_RIRIRRI r0 p1 r2 p3 r4 r5 p6) [(.ref r0)])) (fun t k => ?_) ?_
  · show Steps p.tables e below (s₁.setTop (mkF m 0 (LS_RIRIRRI r0 p1 r2 p3 r4 r5 p6) [])) _
    refine XS.aloadN X0.here hx rfl (hb hby d27_0) rfl rfl ?_
    exact k
  obtain ⟨_, _, ⟨T1, L1, k1, n1⟩, -, X1, ⟨Lc1, hQ1, l1, y1, z1⟩, st1⟩ := X0.specialBack hx (y := (⟨"java/lang/Record", "<init>", "()V"⟩ : MethodName)) rfl hown (mvT hZ (hw _ (List.mem_of_getElem? (i := 185) rfl))) (mvT hZ (hw _ (List.mem_of_getElem? (i := 37) rfl))) (mvT hZ (hw _ (List.mem_of_getElem? (i := 40) rfl))) (by decide) (backOf (W := 0) (rmrec l Z a0 hw [] r0 h0 n0 Z0) hZ (hw _ (List.mem_of_getElem? (i := 40) rfl)) (hw _ (List.mem_of_getElem? (i := 39) rfl)) (by decide) (by decide)) (g := (mkF m 1 (LS_RIRIRRI r0 p1 r2 p3 r4 r5 p6) [(.ref r0)])) rfl (by rw [hml]; rfl) (Steps.refl _) (a := r0) (argsL := []) (rest := []) (lenOf pd___V rfl) rfl (by show 2 * 0 + _ ≤ _; exact Nat.le_of_eq rfl) (hb hby d27_1) (fun _ _ => ⟨rfl, e0, (by decide : 0 + 0 ≤ _), (by decide : 0 + 0 ≤ _)⟩)
  dsimp only [Pt.U, Pt.locs, Pt.cells, Pt.slots] at X1 l1 y1 z1 st1 hQ1
  subst l1 y1 z1
  obtain ⟨rfl, N1q, e1⟩ := hQ1
  have N1 := Fr.app N0 N1q
  refine own_go (B := T1.setTop (mkF m 4 (LS_RIRIRRI r0 p1 r2 p3 r4 r5 p6) [])) (fun t k => st1.trans k) ?_
  refine own_go (B := T1.setTop (mkF m 5 (LS_RIRIRRI r0 p1 r2 p3 r4 r5 p6) [(.ref r2)])) (fun t k => ?_) ?_
  · show Steps p.tables e below (T1.setTop (mkF m 4 (LS_RIRIRRI r0 p1 r2 p3 r4 r5 p6) [])) _
    refine XS.aloadN X1.here hx rfl (hb hby d27_4) rfl rfl ?_
    exact k
  obtain ⟨sa2, T2, h2, kk2, X2, e2, E2, hS2, hk2, hZ2, ho2, st2⟩ := ldcS (s := s) (vm0 := s.vm) X1 hx hZ hown (hw _ (List.mem_of_getElem? (i := 186) rfl)) (own_strs hw) e1 hS0 hk0 (g := (mkF m 5 (LS_RIRIRRI r0 p1 r2 p3 r4 r5 p6) [(.ref r2)])) rfl (hb hby d27_5) (n := 16) (by decide) (by decide) (by decide) (by decide)
  refine own_go (B := T2.setTop (mkF m 7 (LS_RIRIRRI r0 p1 r2 p3 r4 r5 p6) [(.ref sa2), (.ref r2)])) (fun t k => st2 _ k) ?_
  have Z0_v3 := Nat.le_trans Z0 E2.1
  obtain ⟨_, _, ⟨T4, L4, k4, n4⟩, -, X4, ⟨Lc4, hQ4, l4, y4, z4⟩, st4⟩ := Jvm.LawKit.callS X2 hx (y := (⟨"java/util/Objects", "requireNonNull", "(Ljava/lang/Object;Ljava/lang/String;)Ljava/lang/Object;"⟩ : MethodName)) ho2 (mvT hZ2 (hw _ (List.mem_of_getElem? (i := 187) rfl))) (mvT hZ2 (hw _ (List.mem_of_getElem? (i := 46) rfl))) (mvT hZ2 (hw _ (List.mem_of_getElem? (i := 47) rfl))) (mvT hZ2 (hw _ (List.mem_of_getElem? (i := 48) rfl))) (by decide) (backOf (W := 0) (rmrn2 l Z a0 hw [] r2 sa2 h2 n0 Z0_v3) hZ2 (hw _ (List.mem_of_getElem? (i := 48) rfl)) (hw _ (List.mem_of_getElem? (i := 47) rfl)) (by decide) (by decide)) (g := (mkF m 7 (LS_RIRIRRI r0 p1 r2 p3 r4 r5 p6) [(.ref sa2), (.ref r2)])) rfl (by rw [hml]; rfl) (argsL := [(.ref r2), (.ref sa2)]) (rest := []) (lenOf pd__Ljava_lang_Object_Ljava_lang_String__Ljava_lang_Object_ rfl) rfl (by show 2 * 0 + _ ≤ _; exact Nat.le_of_eq rfl) (hb hby d27_7) (fun _ _ => ⟨rfl, e2, (by decide : 2 + 0 ≤ _), (by decide : 20 + 0 ≤ _)⟩)
  dsimp only [Pt.U, Pt.locs, Pt.cells, Pt.slots] at X4 l4 y4 z4 st4 hQ4
  subst l4 y4 z4
  obtain ⟨rfl, N4q, e4⟩ := hQ4
  have N4 := Fr.app N1 N4q
  refine own_go (B := T4.setTop (mkF m 10 (LS_RIRIRRI r0 p1 r2 p3 r4 r5 p6) [(.ref r2)])) (fun t k => st4 _ k) ?_
  refine own_go (B := T4.setTop (mkF m 13 (LS_RIRIRRI r0 p1 r2 p3 r4 r5 p6) [(.ref r4)])) (fun t k => ?_) ?_
  · show Steps p.tables e below (T4.setTop (mkF m 10 (LS_RIRIRRI r0 p1 r2 p3 r4 r5 p6) [(.ref r2)])) _
    refine XS.pop X4.here hx rfl (hb hby d27_10) rfl rfl ?_
    show Steps p.tables e below (T4.setTop (mkF m 11 (LS_RIRIRRI r0 p1 r2 p3 r4 r5 p6) [])) _
    refine XS.aload X4.here hx rfl (hb hby d27_11) rfl rfl ?_
    exact k
  obtain ⟨sa5, T5, h5, kk5, X5, e5, E5, hS5, hk5, hZ5, ho5, st5⟩ := ldcS (s := s) (vm0 := T2.vm) X4 hx hZ2 ho2 (hw _ (List.mem_of_getElem? (i := 188) rfl)) (own_strs hw) e4 hS2 hk2 (g := (mkF m 13 (LS_RIRIRRI r0 p1 r2 p3 r4 r5 p6) [(.ref r4)])) rfl (hb hby d27_13) (n := 40) (by decide) (by decide) (by decide) (by decide)
  refine own_go (B := T5.setTop (mkF m 15 (LS_RIRIRRI r0 p1 r2 p3 r4 r5 p6) [(.ref sa5), (.ref r4)])) (fun t k => st5 _ k) ?_
  have Z0_v6 := Nat.le_trans Z0_v3 E5.1
  obtain ⟨_, _, ⟨T7, L7, k7, n7⟩, -, X7, ⟨Lc7, hQ7, l7, y7, z7⟩, st7⟩ := Jvm.LawKit.callS X5 hx (y := (⟨"java/util/Objects", "requireNonNull", "(Ljava/lang/Object;Ljava/lang/String;)Ljava/lang/Object;"⟩ : MethodName)) ho5 (mvT hZ5 (hw _ (List.mem_of_getElem? (i := 187) rfl))) (mvT hZ5 (hw _ (List.mem_of_getElem? (i := 46) rfl))) (mvT hZ5 (hw _ (List.mem_of_getElem? (i := 47) rfl))) (mvT hZ5 (hw _ (List.mem_of_getElem? (i := 48) rfl))) (by decide) (backOf (W := 0) (rmrn2 l Z a0 hw [] r4 sa5 h5 n0 Z0_v6) hZ5 (hw _ (List.mem_of_getElem? (i := 48) rfl)) (hw _ (List.mem_of_getElem? (i := 47) rfl)) (by decide) (by decide)) (g := (mkF m 15 (LS_RIRIRRI r0 p1 r2 p3 r4 r5 p6) [(.ref sa5), (.ref r4)])) rfl (by rw [hml]; rfl) (argsL := [(.ref r4), (.ref sa5)]) (rest := []) (lenOf pd__Ljava_lang_Object_Ljava_lang_String__Ljava_lang_Object_ rfl) rfl (by show 2 * 0 + _ ≤ _; exact Nat.le_of_eq rfl) (hb hby d27_15) (fun _ _ => ⟨rfl, e5, (by decide : 4 + 0 ≤ _), (by decide : 64 + 0 ≤ _)⟩)
  dsimp only [Pt.U, Pt.locs, Pt.cells, Pt.slots] at X7 l7 y7 z7 st7 hQ7
  subst l7 y7 z7
  obtain ⟨rfl, N7q, e7⟩ := hQ7
  have N7 := Fr.app N4 N7q
  refine own_go (B := T7.setTop (mkF m 18 (LS_RIRIRRI r0 p1 r2 p3 r4 r5 p6) [(.ref r4)])) (fun t k => st7 _ k) ?_
  refine own_go (B := T7.setTop (mkF m 21 (LS_RIRIRRI r0 p1 r2 p3 r4 r5 p6) [(.ref r5)])) (fun t k => ?_) ?_
  · show Steps p.tables e below (T7.setTop (mkF m 18 (LS_RIRIRRI r0 p1 r2 p3 r4 r5 p6) [(.ref r4)])) _
    refine XS.pop X7.here hx rfl (hb hby d27_18) rfl rfl ?_
    show Steps p.tables e below (T7.setTop (mkF m 19 (LS_RIRIRRI r0 p1 r2 p3 r4 r5 p6) [])) _
    refine XS.aload X7.here hx rfl (hb hby d27_19) rfl rfl ?_
    exact k
  obtain ⟨sa8, T8, h8, kk8, X8, e8, E8, hS8, hk8, hZ8, ho8, st8⟩ := ldcS (s := s) (vm0 := T5.vm) X7 hx hZ5 ho5 (hw _ (List.mem_of_getElem? (i := 189) rfl)) (own_strs hw) e7 hS5 hk5 (g := (mkF m 21 (LS_RIRIRRI r0 p1 r2 p3 r4 r5 p6) [(.ref r5)])) rfl (hb hby d27_21) (n := 20) (by decide) (by decide) (by decide) (by decide)
  refine own_go (B := T8.setTop (mkF m 23 (LS_RIRIRRI r0 p1 r2 p3 r4 r5 p6) [(.ref sa8), (.ref r5)])) (fun t k => st8 _ k) ?_
  have Z0_v9 := Nat.le_trans Z0_v6 E8.1
  obtain ⟨_, _, ⟨T10, L10, k10, n10⟩, -, X10, ⟨Lc10, hQ10, l10, y10, z10⟩, st10⟩ := Jvm.LawKit.callS X8 hx (y := (⟨"java/util/Objects", "requireNonNull", "(Ljava/lang/Object;Ljava/lang/String;)Ljava/lang/Object;"⟩ : MethodName)) ho8 (mvT hZ8 (hw _ (List.mem_of_getElem? (i := 187) rfl))) (mvT hZ8 (hw _ (List.mem_of_getElem? (i := 46) rfl))) (mvT hZ8 (hw _ (List.mem_of_getElem? (i := 47) rfl))) (mvT hZ8 (hw _ (List.mem_of_getElem? (i := 48) rfl))) (by decide) (backOf (W := 0) (rmrn2 l Z a0 hw [] r5 sa8 h8 n0 Z0_v9) hZ8 (hw _ (List.mem_of_getElem? (i := 48) rfl)) (hw _ (List.mem_of_getElem? (i := 47) rfl)) (by decide) (by decide)) (g := (mkF m 23 (LS_RIRIRRI r0 p1 r2 p3 r4 r5 p6) [(.ref sa8), (.ref r5)])) rfl (by rw [hml]; rfl) (argsL := [(.ref r5), (.ref sa8)]) (rest := []) (lenOf pd__Ljava_lang_Object_Ljava_lang_String__Ljava_lang_Object_ rfl) rfl (by show 2 * 0 + _ ≤ _; exact Nat.le_of_eq rfl) (hb hby d27_23) (fun _ _ => ⟨rfl, e8, (by decide : 6 + 0 ≤ _), (by decide : 88 + 0 ≤ _)⟩)
  dsimp only [Pt.U, Pt.locs, Pt.cells, Pt.slots] at X10 l10 y10 z10 st10 hQ10
  subst l10 y10 z10
  obtain ⟨rfl, N10q, e10⟩ := hQ10
  have N10 := Fr.app N7 N10q
  refine own_go (B := T10.setTop (mkF m 26 (LS_RIRIRRI r0 p1 r2 p3 r4 r5 p6) [(.ref r5)])) (fun t k => st10 _ k) ?_
  refine own_go (B := T10.setTop (mkF m 47 (LS_RIRIRRI r0 p1 r2 p3 r4 r5 p6) [(.ref r4)])) (fun t k => ?_) ?_
  · show Steps p.tables e below (T10.setTop (mkF m 26 (LS_RIRIRRI r0 p1 r2 p3 r4 r5 p6) [(.ref r5)])) _
    refine XS.pop X10.here hx rfl (hb hby d27_26) rfl rfl ?_
    show Steps p.tables e below (T10.setTop (mkF m 27 (LS_RIRIRRI r0 p1 r2 p3 r4 r5 p6) [])) _
    refine XS.iloadN X10.here hx rfl (hb hby d27_27) rfl ?_
    show Steps p.tables e below (T10.setTop (mkF m 28 (LS_RIRIRRI r0 p1 r2 p3 r4 r5 p6) [(.int p3)])) _
    refine XS.ifYes X10.here hx rfl (pc0 := 28) (pc' := 45) rfl (hb hby d27_28) rfl ((if0 _ _).trans (flt hrem).2.1) (by decide) (by decide) ?_
    show Steps p.tables e below (T10.setTop (mkF m 45 (LS_RIRIRRI r0 p1 r2 p3 r4 r5 p6) [])) _
    refine XS.aload X10.here hx rfl (hb hby d27_45) rfl rfl ?_
    exact k
  have De1_v11 := De1.ext E2
  have De1_v12 := De1_v11.ext E5
  have De1_v13 := De1_v12.ext E8
  have Xe1_v15 := Xe1.ext E2
  have Xe1_v16 := Xe1_v15.ext E5
  have Xe1_v17 := Xe1_v16.ext E8
  obtain ⟨cq14, kq14, q14a, q14b, q14c⟩ := isOf hZ8 e10 Xe1_v17
  obtain ⟨_, _, ⟨T14, L14, k14, n14⟩, -, X14, ⟨Lc14, hQ14, l14, y14, z14⟩, st14⟩ := X10.virtualBack hx (y := (⟨"java/time/Duration", "isNegative", "()Z"⟩ : MethodName)) (z := (⟨"java/time/Duration", "isNegative", "()Z"⟩ : MethodName)) ho8 (mvT hZ8 (hw _ (List.mem_of_getElem? (i := 190) rfl))) (mvT hZ8 (hw _ (List.mem_of_getElem? (i := 191) rfl))) (notFace_of_selects (args := #[]) (mvT hZ8 (hw _ (List.mem_of_getElem? (i := 193) rfl)))) (mvT hZ8 (hw _ (List.mem_of_getElem? (i := 193) rfl))) (mvT hZ8 (hw _ (List.mem_of_getElem? (i := 192) rfl))) (by decide) (backOf (W := 0) (rmneg l Z a0 hw [] r4 q1 h8 n0 Z0_v9 De1_v13 hq1) hZ8 (hw _ (List.mem_of_getElem? (i := 194) rfl)) (hw _ (List.mem_of_getElem? (i := 160) rfl)) (by decide) (by decide)) q14a q14c (g := (mkF m 47 (LS_RIRIRRI r0 p1 r2 p3 r4 r5 p6) [(.ref r4)])) rfl (by rw [hml]; rfl) (Steps.refl _) (argsL := []) (rest := []) (lenOf pd___Z rfl) rfl (by show 2 * 0 + _ ≤ _; exact Nat.le_of_eq rfl) (hb hby d27_47) (fun _ _ => ⟨rfl, e10, (by decide : 6 + 0 ≤ _), (by decide : 88 + 0 ≤ _)⟩)
  dsimp only [Pt.U, Pt.locs, Pt.cells, Pt.slots] at X14 l14 y14 z14 st14 hQ14
  subst l14 y14 z14
  obtain ⟨rfl, N14q, e14⟩ := hQ14
  have N14 := Fr.app N10 N14q
  refine own_go (B := T14.setTop (mkF m 50 (LS_RIRIRRI r0 p1 r2 p3 r4 r5 p6) [(.int (0 : Int32))])) (fun t k => st14.trans k) ?_
  refine own_go (B := T14.setTop (mkF m 73 (LS_RIRIRRI r0 p1 r2 p3 r4 r5 p6) [(.ref r5)])) (fun t k => ?_) ?_
  · show Steps p.tables e below (T14.setTop (mkF m 50 (LS_RIRIRRI r0 p1 r2 p3 r4 r5 p6) [(.int (0 : Int32))])) _
    refine XS.ifYes X14.here hx rfl (pc0 := 50) (pc' := 71) rfl (hb hby d27_50) rfl ((if0 _ _).trans (teq (by decide : (0 : Int32) = (0 : Int32))).1) (by decide) (by decide) ?_
    show Steps p.tables e below (T14.setTop (mkF m 71 (LS_RIRIRRI r0 p1 r2 p3 r4 r5 p6) [])) _
    refine XS.aload X14.here hx rfl (hb hby d27_71) rfl rfl ?_
    exact k
  have De2_v18 := De2.ext E2
  have De2_v19 := De2_v18.ext E5
  have De2_v20 := De2_v19.ext E8
  have Xe2_v22 := Xe2.ext E2
  have Xe2_v23 := Xe2_v22.ext E5
  have Xe2_v24 := Xe2_v23.ext E8
  obtain ⟨cq21, kq21, q21a, q21b, q21c⟩ := isOf hZ8 e14 Xe2_v24
  obtain ⟨_, _, ⟨T21, L21, k21, n21⟩, -, X21, ⟨Lc21, hQ21, l21, y21, z21⟩, st21⟩ := X14.virtualBack hx (y := (⟨"java/time/Duration", "isNegative", "()Z"⟩ : MethodName)) (z := (⟨"java/time/Duration", "isNegative", "()Z"⟩ : MethodName)) ho8 (mvT hZ8 (hw _ (List.mem_of_getElem? (i := 190) rfl))) (mvT hZ8 (hw _ (List.mem_of_getElem? (i := 191) rfl))) (notFace_of_selects (args := #[]) (mvT hZ8 (hw _ (List.mem_of_getElem? (i := 193) rfl)))) (mvT hZ8 (hw _ (List.mem_of_getElem? (i := 193) rfl))) (mvT hZ8 (hw _ (List.mem_of_getElem? (i := 192) rfl))) (by decide) (backOf (W := 0) (rmneg l Z a0 hw [] r5 q2 h8 n0 Z0_v9 De2_v20 hq2) hZ8 (hw _ (List.mem_of_getElem? (i := 194) rfl)) (hw _ (List.mem_of_getElem? (i := 160) rfl)) (by decide) (by decide)) q21a q21c (g := (mkF m 73 (LS_RIRIRRI r0 p1 r2 p3 r4 r5 p6) [(.ref r5)])) rfl (by rw [hml]; rfl) (Steps.refl _) (argsL := []) (rest := []) (lenOf pd___Z rfl) rfl (by show 2 * 0 + _ ≤ _; exact Nat.le_of_eq rfl) (hb hby d27_73) (fun _ _ => ⟨rfl, e14, (by decide : 6 + 0 ≤ _), (by decide : 88 + 0 ≤ _)⟩)
  dsimp only [Pt.U, Pt.locs, Pt.cells, Pt.slots] at X21 l21 y21 z21 st21 hQ21
  subst l21 y21 z21
  obtain ⟨rfl, N21q, e21⟩ := hQ21
  have N21 := Fr.app N14 N21q
  refine own_go (B := T21.setTop (mkF m 76 (LS_RIRIRRI r0 p1 r2 p3 r4 r5 p6) [(.int (0 : Int32))])) (fun t k => st21.trans k) ?_
  refine own_go (B := T21.setTop (mkF m 99 (LS_RIRIRRI r0 p1 r2 p3 r4 r5 p6) [(.int p1), (.ref r0)])) (fun t k => ?_) ?_
  · show Steps p.tables e below (T21.setTop (mkF m 76 (LS_RIRIRRI r0 p1 r2 p3 r4 r5 p6) [(.int (0 : Int32))])) _
    refine XS.ifYes X21.here hx rfl (pc0 := 76) (pc' := 97) rfl (hb hby d27_76) rfl ((if0 _ _).trans (teq (by decide : (0 : Int32) = (0 : Int32))).1) (by decide) (by decide) ?_
    show Steps p.tables e below (T21.setTop (mkF m 97 (LS_RIRIRRI r0 p1 r2 p3 r4 r5 p6) [])) _
    refine XS.aloadN X21.here hx rfl (hb hby d27_97) rfl rfl ?_
    show Steps p.tables e below (T21.setTop (mkF m 98 (LS_RIRIRRI r0 p1 r2 p3 r4 r5 p6) [(.ref r0)])) _
    refine XS.iloadN X21.here hx rfl (hb hby d27_98) rfl ?_
    exact k
  have E0_v25 := E0.ext E2
  have E0_v26 := E0_v25.ext E5
  have E0_v27 := E0_v26.ext E8
  have F0_v28 := F0.ext E2
  have F0_v29 := F0_v28.ext E5
  have F0_v30 := F0_v29.ext E8
  obtain ⟨T31, h31, X31, e31, W31, st31⟩ := putFN X21 hx hZ8 ho8 (hw _ (List.mem_of_getElem? (i := 197) rfl)) Via.refl e21 F0_v30 E0_v27 (Or.inr ⟨(hw _ (List.mem_of_getElem? (i := 198) rfl)), rfl, hnm⟩) (hw _ (List.mem_of_getElem? (i := 165) rfl)) (ty := .boolean) (v' := (.int (nar .boolean p1))) (by decide) rfl (fits_nar_bool _) (g := (mkF m 99 (LS_RIRIRRI r0 p1 r2 p3 r4 r5 p6) [(.int p1), (.ref r0)])) rfl rfl (hb hby d27_99)
  have N31 := Fr.snoc X31 N21 g_r0
  have Fw31 := F0_v30.same W31
  refine own_go (B := T31.setTop (mkF m 102 (LS_RIRIRRI r0 p1 r2 p3 r4 r5 p6) [])) (fun t k => st31 _ k) ?_
  refine own_go (B := T31.setTop (mkF m 104 (LS_RIRIRRI r0 p1 r2 p3 r4 r5 p6) [(.ref r2), (.ref r0)])) (fun t k => ?_) ?_
  · show Steps p.tables e below (T31.setTop (mkF m 102 (LS_RIRIRRI r0 p1 r2 p3 r4 r5 p6) [])) _
    refine XS.aloadN X31.here hx rfl (hb hby d27_102) rfl rfl ?_
    show Steps p.tables e below (T31.setTop (mkF m 103 (LS_RIRIRRI r0 p1 r2 p3 r4 r5 p6) [(.ref r0)])) _
    refine XS.aloadN X31.here hx rfl (hb hby d27_103) rfl rfl ?_
    exact k
  have E0_v32 := E0_v27.wr W31
  have F1_v33 := F1.ext E2
  have F1_v34 := F1_v33.ext E5
  have F1_v35 := F1_v34.ext E8
  have F1_v36 := F1_v35.other W31 (Or.inr (slot_ne (Or.inr (hw _ (List.mem_of_getElem? (i := 200) rfl))) (Or.inr (hw _ (List.mem_of_getElem? (i := 198) rfl))) (by decide) (t := (.object "java/util/Optional")) (t' := .boolean) (by decide) (by decide)))
  obtain ⟨T37, h37, X37, e37, W37, st37⟩ := putF X31 hx hZ8 ho8 (host := "") (Or.inl (hw _ (List.mem_of_getElem? (i := 199) rfl))) Via.refl e31 F1_v36 E0_v32 (Or.inr ⟨(hw _ (List.mem_of_getElem? (i := 200) rfl)), rfl, hnm⟩) (hw _ (List.mem_of_getElem? (i := 165) rfl)) (ty := (.object "java/util/Optional")) (by decide) rfl rfl (g := (mkF m 104 (LS_RIRIRRI r0 p1 r2 p3 r4 r5 p6) [(.ref r2), (.ref r0)])) rfl rfl (hb hby d27_104)
  have N37 := Fr.snoc X37 N31 g_r0
  have Fw37 := F1_v36.same W37
  refine own_go (B := T37.setTop (mkF m 107 (LS_RIRIRRI r0 p1 r2 p3 r4 r5 p6) [])) (fun t k => st37 _ k) ?_
  refine own_go (B := T37.setTop (mkF m 109 (LS_RIRIRRI r0 p1 r2 p3 r4 r5 p6) [(.int p3), (.ref r0)])) (fun t k => ?_) ?_
  · show Steps p.tables e below (T37.setTop (mkF m 107 (LS_RIRIRRI r0 p1 r2 p3 r4 r5 p6) [])) _
    refine XS.aloadN X37.here hx rfl (hb hby d27_107) rfl rfl ?_
    show Steps p.tables e below (T37.setTop (mkF m 108 (LS_RIRIRRI r0 p1 r2 p3 r4 r5 p6) [(.ref r0)])) _
    refine XS.iloadN X37.here hx rfl (hb hby d27_108) rfl ?_
    exact k
  have E0_v38 := E0_v32.wr W37
  have F2_v39 := F2.ext E2
  have F2_v40 := F2_v39.ext E5
  have F2_v41 := F2_v40.ext E8
  have F2_v42 := F2_v41.other W31 (Or.inr (slot_ne (Or.inr (hw _ (List.mem_of_getElem? (i := 202) rfl))) (Or.inr (hw _ (List.mem_of_getElem? (i := 198) rfl))) (by decide) (t := .int) (t' := .boolean) (by decide) (by decide)))
  have F2_v43 := F2_v42.other W37 (Or.inr (slot_ne (Or.inr (hw _ (List.mem_of_getElem? (i := 202) rfl))) (Or.inr (hw _ (List.mem_of_getElem? (i := 200) rfl))) (by decide) (t := .int) (t' := (.object "java/util/Optional")) (by decide) (by decide)))
  obtain ⟨T44, h44, X44, e44, W44, st44⟩ := putF X37 hx hZ8 ho8 (host := "") (Or.inl (hw _ (List.mem_of_getElem? (i := 201) rfl))) Via.refl e37 F2_v43 E0_v38 (Or.inr ⟨(hw _ (List.mem_of_getElem? (i := 202) rfl)), rfl, hnm⟩) (hw _ (List.mem_of_getElem? (i := 165) rfl)) (ty := .int) (by decide) rfl rfl (g := (mkF m 109 (LS_RIRIRRI r0 p1 r2 p3 r4 r5 p6) [(.int p3), (.ref r0)])) rfl rfl (hb hby d27_109)
  have N44 := Fr.snoc X44 N37 g_r0
  have Fw44 := F2_v43.same W44
  refine own_go (B := T44.setTop (mkF m 112 (LS_RIRIRRI r0 p1 r2 p3 r4 r5 p6) [])) (fun t k => st44 _ k) ?_
  refine own_go (B := T44.setTop (mkF m 115 (LS_RIRIRRI r0 p1 r2 p3 r4 r5 p6) [(.ref r4), (.ref r0)])) (fun t k => ?_) ?_
  · show Steps p.tables e below (T44.setTop (mkF m 112 (LS_RIRIRRI r0 p1 r2 p3 r4 r5 p6) [])) _
    refine XS.aloadN X44.here hx rfl (hb hby d27_112) rfl rfl ?_
    show Steps p.tables e below (T44.setTop (mkF m 113 (LS_RIRIRRI r0 p1 r2 p3 r4 r5 p6) [(.ref r0)])) _
    refine XS.aload X44.here hx rfl (hb hby d27_113) rfl rfl ?_
    exact k
  have E0_v45 := E0_v38.wr W44
  have F3_v46 := F3.ext E2
  have F3_v47 := F3_v46.ext E5
  have F3_v48 := F3_v47.ext E8
  have F3_v49 := F3_v48.other W31 (Or.inr (slot_ne (Or.inr (hw _ (List.mem_of_getElem? (i := 204) rfl))) (Or.inr (hw _ (List.mem_of_getElem? (i := 198) rfl))) (by decide) (t := (.object "java/time/Duration")) (t' := .boolean) (by decide) (by decide)))
  have F3_v50 := F3_v49.other W37 (Or.inr (slot_ne (Or.inr (hw _ (List.mem_of_getElem? (i := 204) rfl))) (Or.inr (hw _ (List.mem_of_getElem? (i := 200) rfl))) (by decide) (t := (.object "java/time/Duration")) (t' := (.object "java/util/Optional")) (by decide) (by decide)))
  have F3_v51 := F3_v50.other W44 (Or.inr (slot_ne (Or.inr (hw _ (List.mem_of_getElem? (i := 204) rfl))) (Or.inr (hw _ (List.mem_of_getElem? (i := 202) rfl))) (by decide) (t := (.object "java/time/Duration")) (t' := .int) (by decide) (by decide)))
  obtain ⟨T52, h52, X52, e52, W52, st52⟩ := putF X44 hx hZ8 ho8 (host := "") (Or.inl (hw _ (List.mem_of_getElem? (i := 203) rfl))) Via.refl e44 F3_v51 E0_v45 (Or.inr ⟨(hw _ (List.mem_of_getElem? (i := 204) rfl)), rfl, hnm⟩) (hw _ (List.mem_of_getElem? (i := 165) rfl)) (ty := (.object "java/time/Duration")) (by decide) rfl rfl (g := (mkF m 115 (LS_RIRIRRI r0 p1 r2 p3 r4 r5 p6) [(.ref r4), (.ref r0)])) rfl rfl (hb hby d27_115)
  have N52 := Fr.snoc X52 N44 g_r0
  have Fw52 := F3_v51.same W52
  refine own_go (B := T52.setTop (mkF m 118 (LS_RIRIRRI r0 p1 r2 p3 r4 r5 p6) [])) (fun t k => st52 _ k) ?_
  refine own_go (B := T52.setTop (mkF m 121 (LS_RIRIRRI r0 p1 r2 p3 r4 r5 p6) [(.ref r5), (.ref r0)])) (fun t k => ?_) ?_
  · show Steps p.tables e below (T52.setTop (mkF m 118 (LS_RIRIRRI r0 p1 r2 p3 r4 r5 p6) [])) _
    refine XS.aloadN X52.here hx rfl (hb hby d27_118) rfl rfl ?_
    show Steps p.tables e below (T52.setTop (mkF m 119 (LS_RIRIRRI r0 p1 r2 p3 r4 r5 p6) [(.ref r0)])) _
    refine XS.aload X52.here hx rfl (hb hby d27_119) rfl rfl ?_
    exact k
  have E0_v53 := E0_v45.wr W52
  have F4_v54 := F4.ext E2
  have F4_v55 := F4_v54.ext E5
  have F4_v56 := F4_v55.ext E8
  have F4_v57 := F4_v56.other W31 (Or.inr (slot_ne (Or.inr (hw _ (List.mem_of_getElem? (i := 206) rfl))) (Or.inr (hw _ (List.mem_of_getElem? (i := 198) rfl))) (by decide) (t := (.object "java/time/Duration")) (t' := .boolean) (by decide) (by decide)))
  have F4_v58 := F4_v57.other W37 (Or.inr (slot_ne (Or.inr (hw _ (List.mem_of_getElem? (i := 206) rfl))) (Or.inr (hw _ (List.mem_of_getElem? (i := 200) rfl))) (by decide) (t := (.object "java/time/Duration")) (t' := (.object "java/util/Optional")) (by decide) (by decide)))
  have F4_v59 := F4_v58.other W44 (Or.inr (slot_ne (Or.inr (hw _ (List.mem_of_getElem? (i := 206) rfl))) (Or.inr (hw _ (List.mem_of_getElem? (i := 202) rfl))) (by decide) (t := (.object "java/time/Duration")) (t' := .int) (by decide) (by decide)))
  have F4_v60 := F4_v59.other W52 (Or.inr (slot_ne (Or.inr (hw _ (List.mem_of_getElem? (i := 206) rfl))) (Or.inr (hw _ (List.mem_of_getElem? (i := 204) rfl))) (by decide) (t := (.object "java/time/Duration")) (t' := (.object "java/time/Duration")) (by decide) (by decide)))
  obtain ⟨T61, h61, X61, e61, W61, st61⟩ := putF X52 hx hZ8 ho8 (host := "") (Or.inl (hw _ (List.mem_of_getElem? (i := 205) rfl))) Via.refl e52 F4_v60 E0_v53 (Or.inr ⟨(hw _ (List.mem_of_getElem? (i := 206) rfl)), rfl, hnm⟩) (hw _ (List.mem_of_getElem? (i := 165) rfl)) (ty := (.object "java/time/Duration")) (by decide) rfl rfl (g := (mkF m 121 (LS_RIRIRRI r0 p1 r2 p3 r4 r5 p6) [(.ref r5), (.ref r0)])) rfl rfl (hb hby d27_121)
  have N61 := Fr.snoc X61 N52 g_r0
  have Fw61 := F4_v60.same W61
  refine own_go (B := T61.setTop (mkF m 124 (LS_RIRIRRI r0 p1 r2 p3 r4 r5 p6) [])) (fun t k => st61 _ k) ?_
  refine own_go (B := T61.setTop (mkF m 127 (LS_RIRIRRI r0 p1 r2 p3 r4 r5 p6) [(.int p6), (.ref r0)])) (fun t k => ?_) ?_
  · show Steps p.tables e below (T61.setTop (mkF m 124 (LS_RIRIRRI r0 p1 r2 p3 r4 r5 p6) [])) _
    refine XS.aloadN X61.here hx rfl (hb hby d27_124) rfl rfl ?_
    show Steps p.tables e below (T61.setTop (mkF m 125 (LS_RIRIRRI r0 p1 r2 p3 r4 r5 p6) [(.ref r0)])) _
    refine XS.iload X61.here hx rfl (hb hby d27_125) rfl ?_
    exact k
  have E0_v62 := E0_v53.wr W61
  have F5_v63 := F5.ext E2
  have F5_v64 := F5_v63.ext E5
  have F5_v65 := F5_v64.ext E8
  have F5_v66 := F5_v65.other W31 (Or.inr (slot_ne (Or.inr (hw _ (List.mem_of_getElem? (i := 208) rfl))) (Or.inr (hw _ (List.mem_of_getElem? (i := 198) rfl))) (by decide) (t := .boolean) (t' := .boolean) (by decide) (by decide)))
  have F5_v67 := F5_v66.other W37 (Or.inr (slot_ne (Or.inr (hw _ (List.mem_of_getElem? (i := 208) rfl))) (Or.inr (hw _ (List.mem_of_getElem? (i := 200) rfl))) (by decide) (t := .boolean) (t' := (.object "java/util/Optional")) (by decide) (by decide)))
  have F5_v68 := F5_v67.other W44 (Or.inr (slot_ne (Or.inr (hw _ (List.mem_of_getElem? (i := 208) rfl))) (Or.inr (hw _ (List.mem_of_getElem? (i := 202) rfl))) (by decide) (t := .boolean) (t' := .int) (by decide) (by decide)))
  have F5_v69 := F5_v68.other W52 (Or.inr (slot_ne (Or.inr (hw _ (List.mem_of_getElem? (i := 208) rfl))) (Or.inr (hw _ (List.mem_of_getElem? (i := 204) rfl))) (by decide) (t := .boolean) (t' := (.object "java/time/Duration")) (by decide) (by decide)))
  have F5_v70 := F5_v69.other W61 (Or.inr (slot_ne (Or.inr (hw _ (List.mem_of_getElem? (i := 208) rfl))) (Or.inr (hw _ (List.mem_of_getElem? (i := 206) rfl))) (by decide) (t := .boolean) (t' := (.object "java/time/Duration")) (by decide) (by decide)))
  obtain ⟨T71, h71, X71, e71, W71, st71⟩ := putFN X61 hx hZ8 ho8 (hw _ (List.mem_of_getElem? (i := 207) rfl)) Via.refl e61 F5_v70 E0_v62 (Or.inr ⟨(hw _ (List.mem_of_getElem? (i := 208) rfl)), rfl, hnm⟩) (hw _ (List.mem_of_getElem? (i := 165) rfl)) (ty := .boolean) (v' := (.int (nar .boolean p6))) (by decide) rfl (fits_nar_bool _) (g := (mkF m 127 (LS_RIRIRRI r0 p1 r2 p3 r4 r5 p6) [(.int p6), (.ref r0)])) rfl rfl (hb hby d27_127)
  have N71 := Fr.snoc X71 N61 g_r0
  have Fw71 := F5_v70.same W71
  refine own_go (B := T71.setTop (mkF m 130 (LS_RIRIRRI r0 p1 r2 p3 r4 r5 p6) [])) (fun t k => st71 _ k) ?_
  have hk8_v72 := Nat.le_trans hk8 (Nat.le_of_eq W31.size.symm)
  have hk8_v73 := Nat.le_trans hk8_v72 (Nat.le_of_eq W37.size.symm)
  have hk8_v74 := Nat.le_trans hk8_v73 (Nat.le_of_eq W44.size.symm)
  have hk8_v75 := Nat.le_trans hk8_v74 (Nat.le_of_eq W52.size.symm)
  have hk8_v76 := Nat.le_trans hk8_v75 (Nat.le_of_eq W61.size.symm)
  have hk8_v77 := Nat.le_trans hk8_v76 (Nat.le_of_eq W71.size.symm)
  obtain ⟨fs, hr, hrun, hended, hRW⟩ := Stand.leaveW (s := s) (vm₁ := T8.vm) X71 hS8 (by rw [e71]; exact hk8_v77) (v := none) (fun _ => rfl) (BodyLoose.notSynchronized Bd)
  refine ⟨_, _, ?_, hrun, hended, _, _, rfl, ?_, hRW.1, hRW.2.1, hRW.2.2.1, hRW.2.2.2.mono (by decide) (by decide)⟩
  · show Steps p.tables e below (T71.setTop (mkF m 130 (LS_RIRIRRI r0 p1 r2 p3 r4 r5 p6) [])) _
    exact X71.returnOut hx Bd.returns (hb hby d27_130) hr
  · show Qdei Z r0 p1 r2 p3 r4 r5 p6 q1 q2 h0 n0 _ T71.heap _
    rw [e71]
    have K0_v78 := K0.ext E2
    have K0_v79 := K0_v78.ext E5
    have K0_v80 := K0_v79.ext E8
    have K0_v81 := K0_v80.wr W31 (Or.inl (List.mem_of_getElem? (i := 0) rfl))
    have K0_v82 := K0_v81.wr W37 (Or.inl (List.mem_of_getElem? (i := 0) rfl))
    have K0_v83 := K0_v82.wr W44 (Or.inl (List.mem_of_getElem? (i := 0) rfl))
    have K0_v84 := K0_v83.wr W52 (Or.inl (List.mem_of_getElem? (i := 0) rfl))
    have K0_v85 := K0_v84.wr W61 (Or.inl (List.mem_of_getElem? (i := 0) rfl))
    have K0_v86 := K0_v85.wr W71 (Or.inl (List.mem_of_getElem? (i := 0) rfl))
    exact ⟨rfl, N71, K0_v86⟩
theorem ef_ad3 (m : MethodId) (r0 : Addr) (p1 : Int32) (wz : Addr) : entryFrame m #[(.ref r0), (.int p1), (.ref wz)] 3 = mkF m 0 #[.val (.ref r0), .val (.int p1), .val (.ref wz)] [] := by first | (simp [entryFrame, mkF, argsToLocals, Value.category]; done) | rfl
theorem pn_23 : plainName "com/example/blend2/blend2/Decision" = true := by first | (simp [plainName, overriddenIn]; done) | decide +kernel
abbrev LS_RIR (a0 : Addr) (a1 : Int32) (a2 : Addr) : Array Slot := #[.val (.ref a0), .val (.int a1), .val (.ref a2)]
theorem d23_0 : decode prog_2_method_4_code 0 = .ok (.new 45, 3) := by decide +kernel
theorem d23_3 : decode prog_2_method_4_code 3 = .ok (.dup, 1) := by decide +kernel
theorem d23_4 : decode prog_2_method_4_code 4 = .ok (.iconst 1, 1) := by decide +kernel
theorem d23_5 : decode prog_2_method_4_code 5 = .ok (.aload_n 0, 1) := by decide +kernel
theorem d23_6 : decode prog_2_method_4_code 6 = .ok (.invokestatic 84, 3) := by decide +kernel
theorem pd__Ljava_lang_Object__Ljava_util_Optional_ : parseMethodDescriptor "(Ljava/lang/Object;)Ljava/util/Optional;" = some ⟨[(.object "java/lang/Object")], some (.object "java/util/Optional")⟩ := by decide +kernel
theorem d23_9 : decode prog_2_method_4_code 9 = .ok (.iload_n 1, 1) := by decide +kernel
theorem d23_10 : decode prog_2_method_4_code 10 = .ok (.getstatic 74, 3) := by decide +kernel
theorem d23_13 : decode prog_2_method_4_code 13 = .ok (.aload_n 2, 1) := by decide +kernel
theorem d23_14 : decode prog_2_method_4_code 14 = .ok (.iconst 0, 1) := by decide +kernel
theorem d23_15 : decode prog_2_method_4_code 15 = .ok (.invokespecial 77, 3) := by decide +kernel
theorem pd__ZLjava_util_Optional_ILjava_time_Duration_Ljava_time_Duration_Z_V : parseMethodDescriptor "(ZLjava/util/Optional;ILjava/time/Duration;Ljava/time/Duration;Z)V" = some ⟨[.boolean, (.object "java/util/Optional"), .int, (.object "java/time/Duration"), (.object "java/time/Duration"), .boolean], none⟩ := by decide +kernel
theorem d23_18 : decode prog_2_method_4_code 18 = .ok (.areturn, 1) := by decide +kernel
def Qad3 (Z : State) (r0 : Addr) (p1 : Int32) (wz : Addr) (h0 : Heap) (n0 : Nat) (v : Option Value) (h : Heap) (L : List Loc) : Prop := ∃ r : Addr, v = some (.ref r) ∧ Fr n0 L ∧ Keep h0 h []
set_option maxRecDepth 65536 in
set_option maxHeartbeats 40000000 in
theorem rmad3 (l : Launch) (Z : State) (a0 : Array Value) (hw : ∀ d ∈ tables_1, d.before a0 Z = true) (ws : List Jvm.Cond) (r0 : Addr) (p1 : Int32) (wz : Addr) (h0 : Heap) (n0 : Nat) (Z0 : n0 ≤ h0.size) (S_ZERO : Sta Z h0 "java/time/Duration" "ZERO" "Ljava/time/Duration;" (.ref wz)) (Ez : Exa Z h0 wz "java/time/Duration") (Fz : Fld Z h0 wz "java/time/Duration" "seconds" "J" (.long (0 : Int64))) (hrem : ¬ (p1 < (0 : Int32))) :
    MetFree l (⟨"com/example/blend2/blend2/Decision", "admitted", "(Lcom/example/blend2/blend2/Rule;ILjava/time/Duration;)Lcom/example/blend2/blend2/Decision;"⟩ : MethodName) (head1 (Jvm.Cond.code (⟨"com/example/blend2/blend2/Decision", "admitted", "(Lcom/example/blend2/blend2/Rule;ILjava/time/Duration;)Lcom/example/blend2/blend2/Decision;"⟩ : MethodName) prog_2_method_4_code 3 (some (.object "com/example/blend2/blend2/Decision")) :: ws) ({ frames := 3, cells := 8, slots := 95, locals := 70 } : Room)) (fun a U => a = #[(.ref r0), (.int p1), (.ref wz)] ∧ Z.Warmed39 U.vm ∧ U.heap = h0) (fun _ _ _ _ _ => True) (fun _ U o U' => ∃ v L, o = .returned v ∧ Qad3 Z r0 p1 wz h0 n0 v U'.heap L ∧ ReturnedEndW U o U' L ({ frames := 3, cells := 8, slots := 95, locals := 70 } : Room).cells ({ frames := 3, cells := 8, slots := 95, locals := 70 } : Room).slots) := by
  refine MetFree.of_bodySF (plainFor_of_name pn_23) hisR ?_
  intro p e s m args below meth c s₁ Bd hml0 hP hK
  obtain ⟨rfl, hZ, hh⟩ := hP
  have hx := Bd.exec
  have hby := Bd.bytes
  have hml : c.maxLocals = 3 := hml0
  have hown : s.vm.findClass "com/example/blend2/blend2/Decision" = some m.cls := findClass_of_methodNamed Bd.named
  have hnm := (name_of_methodNamed Bd.named Bd.method).1
  have X0 : Stand p l e ({ frames := 3, cells := 8, slots := 95, locals := 70 } : Room) s m #[(.ref r0), (.int p1), (.ref wz)] below meth c s₁ [] 0 0 := Stand.of_body Bd
  have e0 : s₁.heap = h0 := by rw [← hh, Bd.state]; rfl
  have N0 := Fr.nil n0
  refine own_go (B := s₁.setTop (mkF m 0 (LS_RIR r0 p1 wz) [])) (fun t k => castTop (ef_ad3 m r0 p1 wz) k) ?_
  have hS0 : s.Since s.vm 0 := (State.WarmedH.refl s).since 0
  have hk0 : 0 ≤ Array.size h0 := Nat.zero_le _
  have K0 : Keep h0 h0 [] := Keep.refl _ _
  obtain ⟨T1, h1, X1, e1, E1, A1, D1, -, st1⟩ := newO X0 hx hZ hown (hw _ (List.mem_of_getElem? (i := 164) rfl)) (hw _ (List.mem_of_getElem? (i := 165) rfl)) (hw _ (List.mem_of_getElem? (i := 157) rfl)) e0 (g := (mkF m 0 (LS_RIR r0 p1 wz) [])) rfl (hb hby d23_0) (by decide) (by decide)
  obtain ⟨b1, g1⟩ : ∃ z, z = h0.size := ⟨_, rfl⟩
  rw [← g1] at A1 D1 st1
  have g_b1 : n0 ≤ b1 := Nat.le_trans Z0 (Nat.le_of_eq g1.symm)
  have sz_b1 : h0.size ≤ b1 := Nat.le_trans K0.1 (Nat.le_of_eq g1.symm)
  have F1_allowed : Fld Z h1 b1 "com/example/blend2/blend2/Decision" "allowed" "Z" (.int (0 : Int32)) := D1 (Or.inr (hw _ (List.mem_of_getElem? (i := 198) rfl))) (ty := .boolean) (by decide)
  have F1_rule : Fld Z h1 b1 "com/example/blend2/blend2/Decision" "rule" "Ljava/util/Optional;" .null := D1 (Or.inr (hw _ (List.mem_of_getElem? (i := 200) rfl))) (ty := (.object "java/util/Optional")) (by decide)
  have F1_remaining : Fld Z h1 b1 "com/example/blend2/blend2/Decision" "remaining" "I" (.int (0 : Int32)) := D1 (Or.inr (hw _ (List.mem_of_getElem? (i := 202) rfl))) (ty := .int) (by decide)
  have F1_retryAfter : Fld Z h1 b1 "com/example/blend2/blend2/Decision" "retryAfter" "Ljava/time/Duration;" .null := D1 (Or.inr (hw _ (List.mem_of_getElem? (i := 204) rfl))) (ty := (.object "java/time/Duration")) (by decide)
  have F1_delay : Fld Z h1 b1 "com/example/blend2/blend2/Decision" "delay" "Ljava/time/Duration;" .null := D1 (Or.inr (hw _ (List.mem_of_getElem? (i := 206) rfl))) (ty := (.object "java/time/Duration")) (by decide)
  have F1_degraded : Fld Z h1 b1 "com/example/blend2/blend2/Decision" "degraded" "Z" (.int (0 : Int32)) := D1 (Or.inr (hw _ (List.mem_of_getElem? (i := 208) rfl))) (ty := .boolean) (by decide)
  refine own_go (B := T1.setTop (mkF m 3 (LS_RIR r0 p1 wz) [(.ref b1)])) (fun t k => st1 _ k) ?_
  refine own_go (B := T1.setTop (mkF m 6 (LS_RIR r0 p1 wz) [(.ref r0), (.int (1 : Int32)), (.ref b1), (.ref b1)])) (fun t k => ?_) ?_
  · show Steps p.tables e below (T1.setTop (mkF m 3 (LS_RIR r0 p1 wz) [(.ref b1)])) _
    refine XS.dup X1.here hx rfl (hb hby d23_3) rfl rfl ?_
    show Steps p.tables e below (T1.setTop (mkF m 4 (LS_RIR r0 p1 wz) [(.ref b1), (.ref b1)])) _
    refine XS.iconst X1.here hx rfl (hb hby d23_4) ?_
    show Steps p.tables e below (T1.setTop (mkF m 5 (LS_RIR r0 p1 wz) [(.int (1 : Int32)), (.ref b1), (.ref b1)])) _
    refine XS.aloadN X1.here hx rfl (hb hby d23_5) rfl rfl ?_
    exact k
  have Z0_v2 := Nat.le_trans Z0 E1.1
  obtain ⟨_, _, ⟨T3, L3, k3, n3⟩, -, X3, ⟨Lc3, hQ3, l3, y3, z3⟩, st3⟩ := Jvm.LawKit.callS X1 hx (y := (⟨"java/util/Optional", "of", "(Ljava/lang/Object;)Ljava/util/Optional;"⟩ : MethodName)) hown (mvT hZ (hw _ (List.mem_of_getElem? (i := 166) rfl))) (mvT hZ (hw _ (List.mem_of_getElem? (i := 167) rfl))) (mvT hZ (hw _ (List.mem_of_getElem? (i := 168) rfl))) (mvT hZ (hw _ (List.mem_of_getElem? (i := 169) rfl))) (by decide) (backOf (W := 3) (rmopo l Z a0 hw [] r0 h1 n0 Z0_v2) hZ (hw _ (List.mem_of_getElem? (i := 169) rfl)) (hw _ (List.mem_of_getElem? (i := 168) rfl)) (by decide) (by decide)) (g := (mkF m 6 (LS_RIR r0 p1 wz) [(.ref r0), (.int (1 : Int32)), (.ref b1), (.ref b1)])) rfl (by rw [hml]; rfl) (argsL := [(.ref r0)]) (rest := [(.int (1 : Int32)), (.ref b1), (.ref b1)]) (lenOf pd__Ljava_lang_Object__Ljava_util_Optional_ rfl) rfl (by show 2 * 0 + _ ≤ _; exact Nat.le_of_eq rfl) (hb hby d23_6) (fun _ _ => ⟨rfl, e1, (by decide : 1 + 1 ≤ _), (by decide : 6 + 1 ≤ _)⟩)
  dsimp only [Pt.U, Pt.locs, Pt.cells, Pt.slots] at X3 l3 y3 z3 st3 hQ3
  subst l3 y3 z3
  obtain ⟨o3, rfl, N3q, hfr3, K3⟩ := hQ3
  have N3 := Fr.app N0 N3q
  have g_o3 : n0 ≤ o3 := Nat.le_trans Z0_v2 hfr3
  have K0_v4 := K0.ext E1
  have sz_o3 : h0.size ≤ o3 := Nat.le_trans K0_v4.1 hfr3
  refine own_go (B := T3.setTop (mkF m 9 (LS_RIR r0 p1 wz) [(.ref o3), (.int (1 : Int32)), (.ref b1), (.ref b1)])) (fun t k => st3 _ k) ?_
  have S_ZERO_v5 := S_ZERO.ext E1
  have S_ZERO_v6 := own_sta_keep S_ZERO_v5 K3 all0
  refine own_go (B := T3.setTop (mkF m 10 (LS_RIR r0 p1 wz) [(.int p1), (.ref o3), (.int (1 : Int32)), (.ref b1), (.ref b1)])) (fun t k => ?_) ?_
  · show Steps p.tables e below (T3.setTop (mkF m 9 (LS_RIR r0 p1 wz) [(.ref o3), (.int (1 : Int32)), (.ref b1), (.ref b1)])) _
    refine XS.iloadN X3.here hx rfl (hb hby d23_9) rfl ?_
    exact k
  obtain ⟨T7, X7, e7, st7⟩ := getS2 X3 hx hZ hown (host := "") (Or.inl (hw _ (List.mem_of_getElem? (i := 159) rfl))) Via.refl rfl S_ZERO_v6 (g := (mkF m 10 (LS_RIR r0 p1 wz) [(.int p1), (.ref o3), (.int (1 : Int32)), (.ref b1), (.ref b1)])) rfl (hb hby d23_10)
  refine own_go (B := T7.setTop (mkF m 13 (LS_RIR r0 p1 wz) [(.ref wz), (.int p1), (.ref o3), (.int (1 : Int32)), (.ref b1), (.ref b1)])) (fun t k => st7 _ k) ?_
  refine own_go (B := T7.setTop (mkF m 15 (LS_RIR r0 p1 wz) [(.int (0 : Int32)), (.ref wz), (.ref wz), (.int p1), (.ref o3), (.int (1 : Int32)), (.ref b1), (.ref b1)])) (fun t k => ?_) ?_
  · show Steps p.tables e below (T7.setTop (mkF m 13 (LS_RIR r0 p1 wz) [(.ref wz), (.int p1), (.ref o3), (.int (1 : Int32)), (.ref b1), (.ref b1)])) _
    refine XS.aloadN X7.here hx rfl (hb hby d23_13) rfl rfl ?_
    show Steps p.tables e below (T7.setTop (mkF m 14 (LS_RIR r0 p1 wz) [(.ref wz), (.ref wz), (.int p1), (.ref o3), (.int (1 : Int32)), (.ref b1), (.ref b1)])) _
    refine XS.iconst X7.here hx rfl (hb hby d23_14) ?_
    exact k
  have Z0_v8 := Nat.le_trans Z0_v2 K3.1
  have A1_v9 := A1.keep K3
  have F1_allowed_v10 := F1_allowed.keep K3 nin0
  have F1_rule_v11 := F1_rule.keep K3 nin0
  have F1_remaining_v12 := F1_remaining.keep K3 nin0
  have F1_retryAfter_v13 := F1_retryAfter.keep K3 nin0
  have F1_delay_v14 := F1_delay.keep K3 nin0
  have F1_degraded_v15 := F1_degraded.keep K3 nin0
  have Fz_v16 := Fz.ext E1
  have Fz_v17 := Fz_v16.keep K3 nin0
  have Ez_v18 := Ez.ext E1
  have Ez_v19 := Ez_v18.keep K3
  obtain ⟨_, _, ⟨T20, L20, k20, n20⟩, -, X20, hs20, hg20, ⟨Lc20, hQ20, l20, y20, z20⟩, st20⟩ := X7.specialBackS hx (y := (⟨"com/example/blend2/blend2/Decision", "<init>", "(ZLjava/util/Optional;ILjava/time/Duration;Ljava/time/Duration;Z)V"⟩ : MethodName)) rfl hown (mvT hZ (hw _ (List.mem_of_getElem? (i := 182) rfl))) (mvT hZ (hw _ (List.mem_of_getElem? (i := 183) rfl))) (mvT hZ (hw _ (List.mem_of_getElem? (i := 184) rfl))) (by decide) (backOfS (W := 1) (rmdei l Z a0 hw [] b1 (1 : Int32) o3 p1 wz wz (0 : Int32) (0 : Int64) (0 : Int64) T3.heap n0 Z0_v8 A1_v9 F1_allowed_v10 F1_rule_v11 F1_remaining_v12 F1_retryAfter_v13 F1_delay_v14 F1_degraded_v15 Fz_v17 Ez_v19 (by decide) Fz_v17 Ez_v19 (by decide) hrem g_b1) hZ (hw _ (List.mem_of_getElem? (i := 184) rfl)) (hw _ (List.mem_of_getElem? (i := 157) rfl)) (by decide) (by decide)) (g := (mkF m 15 (LS_RIR r0 p1 wz) [(.int (0 : Int32)), (.ref wz), (.ref wz), (.int p1), (.ref o3), (.int (1 : Int32)), (.ref b1), (.ref b1)])) rfl (by rw [hml]; rfl) (Steps.refl _) (a := b1) (argsL := [(.int (1 : Int32)), (.ref o3), (.int p1), (.ref wz), (.ref wz), (.int (0 : Int32))]) (rest := [(.ref b1)]) (lenOf pd__ZLjava_util_Optional_ILjava_time_Duration_Ljava_time_Duration_Z_V rfl) rfl (by show 2 * 0 + _ ≤ _; exact Nat.le_of_eq rfl) (hb hby d23_15) (fun _ _ => ⟨rfl, e7, (by decide : 2 + 6 ≤ _), (by decide : 7 + 88 ≤ _)⟩)
  dsimp only [Pt.U, Pt.locs, Pt.cells, Pt.slots] at X20 l20 y20 z20 st20 hQ20 hs20 hg20
  subst l20 y20 z20
  have hk0_v21 := Nat.le_trans hk0 E1.1
  have hk0_v22 := Nat.le_trans hk0_v21 K3.1
  have hS20 : s.Since T20.vm T20.heap.size := foldS (s := s) (vm0 := s.vm) (T := T7) (U := T20) hS0 (by rw [e7]; exact hk0_v22) hs20 hg20
  have hZ20 : Z.Warmed39 (s.setVm T20.vm).vm := State.Warmed39.trans (t := s.setVm s.vm) hZ hs20.1
  have ho20 : (s.setVm T20.vm).vm.findClass "com/example/blend2/blend2/Decision" = some m.cls := by rw [show (s.setVm T20.vm).vm = T20.vm from rfl, hs20.1.alike.findClass]; exact hown
  obtain ⟨rfl, N20q, K20⟩ := hQ20
  have N20 := Fr.app N3 N20q
  have hk20 : T20.heap.size ≤ T20.heap.size := Nat.le_refl _
  refine own_go (B := T20.setTop (mkF m 18 (LS_RIR r0 p1 wz) [(.ref b1)])) (fun t k => st20.trans k) ?_
  obtain ⟨fs, hr, hrun, hended, hRW⟩ := Stand.leaveW (s := s) (vm₁ := T20.vm) X20 hS20 hk20 (v := some (.ref b1)) (fun h => by rw [Bd.returns] at h; cases h) (BodyLoose.notSynchronized Bd)
  refine ⟨_, _, ?_, hrun, hended, _, _, rfl, ?_, hRW.1, hRW.2.1, hRW.2.2.1, hRW.2.2.2.mono (by decide) (by decide)⟩
  · show Steps p.tables e below (T20.setTop (mkF m 18 (LS_RIR r0 p1 wz) [(.ref b1)])) _
    exact retOut X20 hx Bd.returns rfl (Or.inr (Or.inr (Or.inr (Or.inr ⟨rfl, rfl, rfl⟩)))) (hb hby d23_18) hr
  · show Qad3 Z r0 p1 wz h0 n0 _ T20.heap _
    have K0_v23 := K0_v4.trans K3 all0
    have K0_v24 := K0_v23.trans K20 (allS (Or.inr sz_b1) all0)
    exact ⟨b1, rfl, N20, K0_v24⟩
theorem ef_ad2 (m : MethodId) (r0 : Addr) (p1 : Int32) : entryFrame m #[(.ref r0), (.int p1)] 2 = mkF m 0 #[.val (.ref r0), .val (.int p1)] [] := by first | (simp [entryFrame, mkF, argsToLocals, Value.category]; done) | rfl
theorem pn_22 : plainName "com/example/blend2/blend2/Decision" = true := by first | (simp [plainName, overriddenIn]; done) | decide +kernel
abbrev LS_RI (a0 : Addr) (a1 : Int32) : Array Slot := #[.val (.ref a0), .val (.int a1)]
theorem d22_0 : decode prog_2_method_3_code 0 = .ok (.aload_n 0, 1) := by decide +kernel
theorem d22_1 : decode prog_2_method_3_code 1 = .ok (.iload_n 1, 1) := by decide +kernel
theorem d22_2 : decode prog_2_method_3_code 2 = .ok (.getstatic 74, 3) := by decide +kernel
theorem d22_5 : decode prog_2_method_3_code 5 = .ok (.invokestatic 80, 3) := by decide +kernel
theorem pd__Lcom_example_blend2_blend2_Rule_ILjava_time_Duration__Lcom_example_blend2_blend2_Decision_ : parseMethodDescriptor "(Lcom/example/blend2/blend2/Rule;ILjava/time/Duration;)Lcom/example/blend2/blend2/Decision;" = some ⟨[(.object "com/example/blend2/blend2/Rule"), .int, (.object "java/time/Duration")], some (.object "com/example/blend2/blend2/Decision")⟩ := by decide +kernel
theorem d22_8 : decode prog_2_method_3_code 8 = .ok (.areturn, 1) := by decide +kernel
def Qad2 (Z : State) (r0 : Addr) (p1 : Int32) (wz : Addr) (h0 : Heap) (n0 : Nat) (v : Option Value) (h : Heap) (L : List Loc) : Prop := ∃ r : Addr, v = some (.ref r) ∧ Fr n0 L ∧ Keep h0 h []
set_option maxRecDepth 65536 in
set_option maxHeartbeats 40000000 in
theorem rmad2 (l : Launch) (Z : State) (a0 : Array Value) (hw : ∀ d ∈ tables_1, d.before a0 Z = true) (ws : List Jvm.Cond) (r0 : Addr) (p1 : Int32) (wz : Addr) (h0 : Heap) (n0 : Nat) (Z0 : n0 ≤ h0.size) (S_ZERO : Sta Z h0 "java/time/Duration" "ZERO" "Ljava/time/Duration;" (.ref wz)) (Ez : Exa Z h0 wz "java/time/Duration") (Fz : Fld Z h0 wz "java/time/Duration" "seconds" "J" (.long (0 : Int64))) (hrem : ¬ (p1 < (0 : Int32))) :
    MetFree l (⟨"com/example/blend2/blend2/Decision", "admitted", "(Lcom/example/blend2/blend2/Rule;I)Lcom/example/blend2/blend2/Decision;"⟩ : MethodName) (head1 (Jvm.Cond.code (⟨"com/example/blend2/blend2/Decision", "admitted", "(Lcom/example/blend2/blend2/Rule;I)Lcom/example/blend2/blend2/Decision;"⟩ : MethodName) prog_2_method_3_code 2 (some (.object "com/example/blend2/blend2/Decision")) :: ws) ({ frames := 4, cells := 8, slots := 95, locals := 90 } : Room)) (fun a U => a = #[(.ref r0), (.int p1)] ∧ Z.Warmed39 U.vm ∧ U.heap = h0) (fun _ _ _ _ _ => True) (fun _ U o U' => ∃ v L, o = .returned v ∧ Qad2 Z r0 p1 wz h0 n0 v U'.heap L ∧ ReturnedEndW U o U' L ({ frames := 4, cells := 8, slots := 95, locals := 90 } : Room).cells ({ frames := 4, cells := 8, slots := 95, locals := 90 } : Room).slots) := by
  refine MetFree.of_bodySF (plainFor_of_name pn_22) hisR ?_
  intro p e s m args below meth c s₁ Bd hml0 hP hK
  obtain ⟨rfl, hZ, hh⟩ := hP
  have hx := Bd.exec
  have hby := Bd.bytes
  have hml : c.maxLocals = 2 := hml0
  have hown : s.vm.findClass "com/example/blend2/blend2/Decision" = some m.cls := findClass_of_methodNamed Bd.named
  have hnm := (name_of_methodNamed Bd.named Bd.method).1
  have X0 : Stand p l e ({ frames := 4, cells := 8, slots := 95, locals := 90 } : Room) s m #[(.ref r0), (.int p1)] below meth c s₁ [] 0 0 := Stand.of_body Bd
  have e0 : s₁.heap = h0 := by rw [← hh, Bd.state]; rfl
  have N0 := Fr.nil n0
  refine own_go (B := s₁.setTop (mkF m 0 (LS_RI r0 p1) [])) (fun t k => castTop (ef_ad2 m r0 p1) k) ?_
  have hS0 : s.Since s.vm 0 := (State.WarmedH.refl s).since 0
  have hk0 : 0 ≤ Array.size h0 := Nat.zero_le _
  have K0 : Keep h0 h0 [] := Keep.refl _ _
  refine own_go (B := s₁.setTop (mkF m 2 (LS_RI r0 p1) [(.int p1), (.ref r0)])) (fun t k => ?_) ?_
  · show Steps p.tables e below (s₁.setTop (mkF m 0 (LS_RI r0 p1) [])) _
    refine XS.aloadN X0.here hx rfl (hb hby d22_0) rfl rfl ?_
    show Steps p.tables e below (s₁.setTop (mkF m 1 (LS_RI r0 p1) [(.ref r0)])) _
    refine XS.iloadN X0.here hx rfl (hb hby d22_1) rfl ?_
    exact k
  obtain ⟨T1, X1, e1, st1⟩ := getS2 X0 hx hZ hown (host := "") (Or.inl (hw _ (List.mem_of_getElem? (i := 159) rfl))) Via.refl e0 S_ZERO (g := (mkF m 2 (LS_RI r0 p1) [(.int p1), (.ref r0)])) rfl (hb hby d22_2)
  refine own_go (B := T1.setTop (mkF m 5 (LS_RI r0 p1) [(.ref wz), (.int p1), (.ref r0)])) (fun t k => st1 _ k) ?_
  obtain ⟨_, _, ⟨T2, L2, k2, n2⟩, -, X2, hs2, hg2, ⟨Lc2, hQ2, l2, y2, z2⟩, st2⟩ := callSS X1 hx (y := (⟨"com/example/blend2/blend2/Decision", "admitted", "(Lcom/example/blend2/blend2/Rule;ILjava/time/Duration;)Lcom/example/blend2/blend2/Decision;"⟩ : MethodName)) hown (mvT hZ (hw _ (List.mem_of_getElem? (i := 161) rfl))) (mvT hZ (hw _ (List.mem_of_getElem? (i := 162) rfl))) (mvT hZ (hw _ (List.mem_of_getElem? (i := 157) rfl))) (mvT hZ (hw _ (List.mem_of_getElem? (i := 163) rfl))) (by decide) (backOfS (W := 0) (rmad3 l Z a0 hw [] r0 p1 wz h0 n0 Z0 S_ZERO Ez Fz hrem) hZ (hw _ (List.mem_of_getElem? (i := 163) rfl)) (hw _ (List.mem_of_getElem? (i := 157) rfl)) (by decide) (by decide)) (g := (mkF m 5 (LS_RI r0 p1) [(.ref wz), (.int p1), (.ref r0)])) rfl (by rw [hml]; rfl) (argsL := [(.ref r0), (.int p1), (.ref wz)]) (rest := []) (lenOf pd__Lcom_example_blend2_blend2_Rule_ILjava_time_Duration__Lcom_example_blend2_blend2_Decision_ rfl) rfl (by show 2 * 0 + _ ≤ _; exact Nat.le_of_eq rfl) (hb hby d22_5) (fun _ _ => ⟨rfl, e1, (by decide : 0 + 8 ≤ _), (by decide : 0 + 95 ≤ _)⟩)
  dsimp only [Pt.U, Pt.locs, Pt.cells, Pt.slots] at X2 l2 y2 z2 st2 hQ2 hs2 hg2
  subst l2 y2 z2
  have hS2 : s.Since T2.vm T2.heap.size := foldS (s := s) (vm0 := s.vm) (T := T1) (U := T2) hS0 (by rw [e1]; exact hk0) hs2 hg2
  have hZ2 : Z.Warmed39 (s.setVm T2.vm).vm := State.Warmed39.trans (t := s.setVm s.vm) hZ hs2.1
  have ho2 : (s.setVm T2.vm).vm.findClass "com/example/blend2/blend2/Decision" = some m.cls := by rw [show (s.setVm T2.vm).vm = T2.vm from rfl, hs2.1.alike.findClass]; exact hown
  obtain ⟨o2, rfl, N2q, K2⟩ := hQ2
  have N2 := Fr.app N0 N2q
  have hk2 : T2.heap.size ≤ T2.heap.size := Nat.le_refl _
  refine own_go (B := T2.setTop (mkF m 8 (LS_RI r0 p1) [(.ref o2)])) (fun t k => st2.trans k) ?_
  obtain ⟨fs, hr, hrun, hended, hRW⟩ := Stand.leaveW (s := s) (vm₁ := T2.vm) X2 hS2 hk2 (v := some (.ref o2)) (fun h => by rw [Bd.returns] at h; cases h) (BodyLoose.notSynchronized Bd)
  refine ⟨_, _, ?_, hrun, hended, _, _, rfl, ?_, hRW.1, hRW.2.1, hRW.2.2.1, hRW.2.2.2.mono (by decide) (by decide)⟩
  · show Steps p.tables e below (T2.setTop (mkF m 8 (LS_RI r0 p1) [(.ref o2)])) _
    exact retOut X2 hx Bd.returns rfl (Or.inr (Or.inr (Or.inr (Or.inr ⟨rfl, rfl, rfl⟩)))) (hb hby d22_8) hr
  · show Qad2 Z r0 p1 wz h0 n0 _ T2.heap _
    have K0_v3 := K0.trans K2 all0
    exact ⟨o2, rfl, N2, K0_v3⟩
theorem ef_ref (m : MethodId) (r0 : Addr) (r1 : Addr) : entryFrame m #[(.ref r0), (.ref r1)] 2 = mkF m 0 #[.val (.ref r0), .val (.ref r1)] [] := by first | (simp [entryFrame, mkF, argsToLocals, Value.category]; done) | rfl
theorem pn_39 : plainName "com/example/blend2/blend2/Decision" = true := by first | (simp [plainName, overriddenIn]; done) | decide +kernel
theorem d39_0 : decode prog_2_method_5_code 0 = .ok (.new 45, 3) := by decide +kernel
theorem d39_3 : decode prog_2_method_5_code 3 = .ok (.dup, 1) := by decide +kernel
theorem d39_4 : decode prog_2_method_5_code 4 = .ok (.iconst 0, 1) := by decide +kernel
theorem d39_5 : decode prog_2_method_5_code 5 = .ok (.aload_n 0, 1) := by decide +kernel
theorem d39_6 : decode prog_2_method_5_code 6 = .ok (.invokestatic 84, 3) := by decide +kernel
theorem d39_9 : decode prog_2_method_5_code 9 = .ok (.iconst 0, 1) := by decide +kernel
theorem d39_10 : decode prog_2_method_5_code 10 = .ok (.aload_n 1, 1) := by decide +kernel
theorem d39_11 : decode prog_2_method_5_code 11 = .ok (.getstatic 74, 3) := by decide +kernel
theorem d39_14 : decode prog_2_method_5_code 14 = .ok (.iconst 0, 1) := by decide +kernel
theorem d39_15 : decode prog_2_method_5_code 15 = .ok (.invokespecial 77, 3) := by decide +kernel
theorem d39_18 : decode prog_2_method_5_code 18 = .ok (.areturn, 1) := by decide +kernel
def Qref (Z : State) (r0 : Addr) (r1 : Addr) (wz : Addr) (q1 : Int64) (h0 : Heap) (n0 : Nat) (v : Option Value) (h : Heap) (L : List Loc) : Prop := ∃ r : Addr, v = some (.ref r) ∧ Fr n0 L ∧ Keep h0 h []
set_option maxRecDepth 65536 in
set_option maxHeartbeats 40000000 in
theorem rmref (l : Launch) (Z : State) (a0 : Array Value) (hw : ∀ d ∈ tables_1, d.before a0 Z = true) (ws : List Jvm.Cond) (r0 : Addr) (r1 : Addr) (wz : Addr) (q1 : Int64) (h0 : Heap) (n0 : Nat) (Z0 : n0 ≤ h0.size) (S_ZERO : Sta Z h0 "java/time/Duration" "ZERO" "Ljava/time/Duration;" (.ref wz)) (Ez : Exa Z h0 wz "java/time/Duration") (Fz : Fld Z h0 wz "java/time/Duration" "seconds" "J" (.long (0 : Int64))) (Xd : Exa Z h0 r1 "java/time/Duration") (Fd : Fld Z h0 r1 "java/time/Duration" "seconds" "J" (.long q1)) (hq : ¬ (q1 < (0 : Int64))) :
    MetFree l (⟨"com/example/blend2/blend2/Decision", "refused", "(Lcom/example/blend2/blend2/Rule;Ljava/time/Duration;)Lcom/example/blend2/blend2/Decision;"⟩ : MethodName) (head1 (Jvm.Cond.code (⟨"com/example/blend2/blend2/Decision", "refused", "(Lcom/example/blend2/blend2/Rule;Ljava/time/Duration;)Lcom/example/blend2/blend2/Decision;"⟩ : MethodName) prog_2_method_5_code 2 (some (.object "com/example/blend2/blend2/Decision")) :: ws) ({ frames := 3, cells := 8, slots := 95, locals := 70 } : Room)) (fun a U => a = #[(.ref r0), (.ref r1)] ∧ Z.Warmed39 U.vm ∧ U.heap = h0) (fun _ _ _ _ _ => True) (fun _ U o U' => ∃ v L, o = .returned v ∧ Qref Z r0 r1 wz q1 h0 n0 v U'.heap L ∧ ReturnedEndW U o U' L ({ frames := 3, cells := 8, slots := 95, locals := 70 } : Room).cells ({ frames := 3, cells := 8, slots := 95, locals := 70 } : Room).slots) := by
  refine MetFree.of_bodySF (plainFor_of_name pn_39) hisR ?_
  intro p e s m args below meth c s₁ Bd hml0 hP hK
  obtain ⟨rfl, hZ, hh⟩ := hP
  have hx := Bd.exec
  have hby := Bd.bytes
  have hml : c.maxLocals = 2 := hml0
  have hown : s.vm.findClass "com/example/blend2/blend2/Decision" = some m.cls := findClass_of_methodNamed Bd.named
  have hnm := (name_of_methodNamed Bd.named Bd.method).1
  have X0 : Stand p l e ({ frames := 3, cells := 8, slots := 95, locals := 70 } : Room) s m #[(.ref r0), (.ref r1)] below meth c s₁ [] 0 0 := Stand.of_body Bd
  have e0 : s₁.heap = h0 := by rw [← hh, Bd.state]; rfl
  have N0 := Fr.nil n0
  refine own_go (B := s₁.setTop (mkF m 0 (LS_RR r0 r1) [])) (fun t k => castTop (ef_ref m r0 r1) k) ?_
  have hS0 : s.Since s.vm 0 := (State.WarmedH.refl s).since 0
  have hk0 : 0 ≤ Array.size h0 := Nat.zero_le _
  have K0 : Keep h0 h0 [] := Keep.refl _ _
  obtain ⟨T1, h1, X1, e1, E1, A1, D1, -, st1⟩ := newO X0 hx hZ hown (hw _ (List.mem_of_getElem? (i := 164) rfl)) (hw _ (List.mem_of_getElem? (i := 165) rfl)) (hw _ (List.mem_of_getElem? (i := 157) rfl)) e0 (g := (mkF m 0 (LS_RR r0 r1) [])) rfl (hb hby d39_0) (by decide) (by decide)
  obtain ⟨b1, g1⟩ : ∃ z, z = h0.size := ⟨_, rfl⟩
  rw [← g1] at A1 D1 st1
  have g_b1 : n0 ≤ b1 := Nat.le_trans Z0 (Nat.le_of_eq g1.symm)
  have sz_b1 : h0.size ≤ b1 := Nat.le_trans K0.1 (Nat.le_of_eq g1.symm)
  have F1_allowed : Fld Z h1 b1 "com/example/blend2/blend2/Decision" "allowed" "Z" (.int (0 : Int32)) := D1 (Or.inr (hw _ (List.mem_of_getElem? (i := 198) rfl))) (ty := .boolean) (by decide)
  have F1_rule : Fld Z h1 b1 "com/example/blend2/blend2/Decision" "rule" "Ljava/util/Optional;" .null := D1 (Or.inr (hw _ (List.mem_of_getElem? (i := 200) rfl))) (ty := (.object "java/util/Optional")) (by decide)
  have F1_remaining : Fld Z h1 b1 "com/example/blend2/blend2/Decision" "remaining" "I" (.int (0 : Int32)) := D1 (Or.inr (hw _ (List.mem_of_getElem? (i := 202) rfl))) (ty := .int) (by decide)
  have F1_retryAfter : Fld Z h1 b1 "com/example/blend2/blend2/Decision" "retryAfter" "Ljava/time/Duration;" .null := D1 (Or.inr (hw _ (List.mem_of_getElem? (i := 204) rfl))) (ty := (.object "java/time/Duration")) (by decide)
  have F1_delay : Fld Z h1 b1 "com/example/blend2/blend2/Decision" "delay" "Ljava/time/Duration;" .null := D1 (Or.inr (hw _ (List.mem_of_getElem? (i := 206) rfl))) (ty := (.object "java/time/Duration")) (by decide)
  have F1_degraded : Fld Z h1 b1 "com/example/blend2/blend2/Decision" "degraded" "Z" (.int (0 : Int32)) := D1 (Or.inr (hw _ (List.mem_of_getElem? (i := 208) rfl))) (ty := .boolean) (by decide)
  refine own_go (B := T1.setTop (mkF m 3 (LS_RR r0 r1) [(.ref b1)])) (fun t k => st1 _ k) ?_
  refine own_go (B := T1.setTop (mkF m 6 (LS_RR r0 r1) [(.ref r0), (.int (0 : Int32)), (.ref b1), (.ref b1)])) (fun t k => ?_) ?_
  · show Steps p.tables e below (T1.setTop (mkF m 3 (LS_RR r0 r1) [(.ref b1)])) _
    refine XS.dup X1.here hx rfl (hb hby d39_3) rfl rfl ?_
    show Steps p.tables e below (T1.setTop (mkF m 4 (LS_RR r0 r1) [(.ref b1), (.ref b1)])) _
    refine XS.iconst X1.here hx rfl (hb hby d39_4) ?_
    show Steps p.tables e below (T1.setTop (mkF m 5 (LS_RR r0 r1) [(.int (0 : Int32)), (.ref b1), (.ref b1)])) _
    refine XS.aloadN X1.here hx rfl (hb hby d39_5) rfl rfl ?_
    exact k
  have Z0_v2 := Nat.le_trans Z0 E1.1
  obtain ⟨_, _, ⟨T3, L3, k3, n3⟩, -, X3, ⟨Lc3, hQ3, l3, y3, z3⟩, st3⟩ := Jvm.LawKit.callS X1 hx (y := (⟨"java/util/Optional", "of", "(Ljava/lang/Object;)Ljava/util/Optional;"⟩ : MethodName)) hown (mvT hZ (hw _ (List.mem_of_getElem? (i := 166) rfl))) (mvT hZ (hw _ (List.mem_of_getElem? (i := 167) rfl))) (mvT hZ (hw _ (List.mem_of_getElem? (i := 168) rfl))) (mvT hZ (hw _ (List.mem_of_getElem? (i := 169) rfl))) (by decide) (backOf (W := 3) (rmopo l Z a0 hw [] r0 h1 n0 Z0_v2) hZ (hw _ (List.mem_of_getElem? (i := 169) rfl)) (hw _ (List.mem_of_getElem? (i := 168) rfl)) (by decide) (by decide)) (g := (mkF m 6 (LS_RR r0 r1) [(.ref r0), (.int (0 : Int32)), (.ref b1), (.ref b1)])) rfl (by rw [hml]; rfl) (argsL := [(.ref r0)]) (rest := [(.int (0 : Int32)), (.ref b1), (.ref b1)]) (lenOf pd__Ljava_lang_Object__Ljava_util_Optional_ rfl) rfl (by show 2 * 0 + _ ≤ _; exact Nat.le_of_eq rfl) (hb hby d39_6) (fun _ _ => ⟨rfl, e1, (by decide : 1 + 1 ≤ _), (by decide : 6 + 1 ≤ _)⟩)
  dsimp only [Pt.U, Pt.locs, Pt.cells, Pt.slots] at X3 l3 y3 z3 st3 hQ3
  subst l3 y3 z3
  obtain ⟨o3, rfl, N3q, hfr3, K3⟩ := hQ3
  have N3 := Fr.app N0 N3q
  have g_o3 : n0 ≤ o3 := Nat.le_trans Z0_v2 hfr3
  have K0_v4 := K0.ext E1
  have sz_o3 : h0.size ≤ o3 := Nat.le_trans K0_v4.1 hfr3
  refine own_go (B := T3.setTop (mkF m 9 (LS_RR r0 r1) [(.ref o3), (.int (0 : Int32)), (.ref b1), (.ref b1)])) (fun t k => st3 _ k) ?_
  have S_ZERO_v5 := S_ZERO.ext E1
  have S_ZERO_v6 := own_sta_keep S_ZERO_v5 K3 all0
  refine own_go (B := T3.setTop (mkF m 11 (LS_RR r0 r1) [(.ref r1), (.int (0 : Int32)), (.ref o3), (.int (0 : Int32)), (.ref b1), (.ref b1)])) (fun t k => ?_) ?_
  · show Steps p.tables e below (T3.setTop (mkF m 9 (LS_RR r0 r1) [(.ref o3), (.int (0 : Int32)), (.ref b1), (.ref b1)])) _
    refine XS.iconst X3.here hx rfl (hb hby d39_9) ?_
    show Steps p.tables e below (T3.setTop (mkF m 10 (LS_RR r0 r1) [(.int (0 : Int32)), (.ref o3), (.int (0 : Int32)), (.ref b1), (.ref b1)])) _
    refine XS.aloadN X3.here hx rfl (hb hby d39_10) rfl rfl ?_
    exact k
  obtain ⟨T7, X7, e7, st7⟩ := getS2 X3 hx hZ hown (host := "") (Or.inl (hw _ (List.mem_of_getElem? (i := 159) rfl))) Via.refl rfl S_ZERO_v6 (g := (mkF m 11 (LS_RR r0 r1) [(.ref r1), (.int (0 : Int32)), (.ref o3), (.int (0 : Int32)), (.ref b1), (.ref b1)])) rfl (hb hby d39_11)
  refine own_go (B := T7.setTop (mkF m 14 (LS_RR r0 r1) [(.ref wz), (.ref r1), (.int (0 : Int32)), (.ref o3), (.int (0 : Int32)), (.ref b1), (.ref b1)])) (fun t k => st7 _ k) ?_
  refine own_go (B := T7.setTop (mkF m 15 (LS_RR r0 r1) [(.int (0 : Int32)), (.ref wz), (.ref r1), (.int (0 : Int32)), (.ref o3), (.int (0 : Int32)), (.ref b1), (.ref b1)])) (fun t k => ?_) ?_
  · show Steps p.tables e below (T7.setTop (mkF m 14 (LS_RR r0 r1) [(.ref wz), (.ref r1), (.int (0 : Int32)), (.ref o3), (.int (0 : Int32)), (.ref b1), (.ref b1)])) _
    refine XS.iconst X7.here hx rfl (hb hby d39_14) ?_
    exact k
  have Z0_v8 := Nat.le_trans Z0_v2 K3.1
  have A1_v9 := A1.keep K3
  have F1_allowed_v10 := F1_allowed.keep K3 nin0
  have F1_rule_v11 := F1_rule.keep K3 nin0
  have F1_remaining_v12 := F1_remaining.keep K3 nin0
  have F1_retryAfter_v13 := F1_retryAfter.keep K3 nin0
  have F1_delay_v14 := F1_delay.keep K3 nin0
  have F1_degraded_v15 := F1_degraded.keep K3 nin0
  have Fd_v16 := Fd.ext E1
  have Fd_v17 := Fd_v16.keep K3 nin0
  have Xd_v18 := Xd.ext E1
  have Xd_v19 := Xd_v18.keep K3
  have Fz_v20 := Fz.ext E1
  have Fz_v21 := Fz_v20.keep K3 nin0
  have Ez_v22 := Ez.ext E1
  have Ez_v23 := Ez_v22.keep K3
  obtain ⟨_, _, ⟨T24, L24, k24, n24⟩, -, X24, hs24, hg24, ⟨Lc24, hQ24, l24, y24, z24⟩, st24⟩ := X7.specialBackS hx (y := (⟨"com/example/blend2/blend2/Decision", "<init>", "(ZLjava/util/Optional;ILjava/time/Duration;Ljava/time/Duration;Z)V"⟩ : MethodName)) rfl hown (mvT hZ (hw _ (List.mem_of_getElem? (i := 182) rfl))) (mvT hZ (hw _ (List.mem_of_getElem? (i := 183) rfl))) (mvT hZ (hw _ (List.mem_of_getElem? (i := 184) rfl))) (by decide) (backOfS (W := 1) (rmdei l Z a0 hw [] b1 (0 : Int32) o3 (0 : Int32) r1 wz (0 : Int32) q1 (0 : Int64) T3.heap n0 Z0_v8 A1_v9 F1_allowed_v10 F1_rule_v11 F1_remaining_v12 F1_retryAfter_v13 F1_delay_v14 F1_degraded_v15 Fd_v17 Xd_v19 hq Fz_v21 Ez_v23 (by decide) (by decide) g_b1) hZ (hw _ (List.mem_of_getElem? (i := 184) rfl)) (hw _ (List.mem_of_getElem? (i := 157) rfl)) (by decide) (by decide)) (g := (mkF m 15 (LS_RR r0 r1) [(.int (0 : Int32)), (.ref wz), (.ref r1), (.int (0 : Int32)), (.ref o3), (.int (0 : Int32)), (.ref b1), (.ref b1)])) rfl (by rw [hml]; rfl) (Steps.refl _) (a := b1) (argsL := [(.int (0 : Int32)), (.ref o3), (.int (0 : Int32)), (.ref r1), (.ref wz), (.int (0 : Int32))]) (rest := [(.ref b1)]) (lenOf pd__ZLjava_util_Optional_ILjava_time_Duration_Ljava_time_Duration_Z_V rfl) rfl (by show 2 * 0 + _ ≤ _; exact Nat.le_of_eq rfl) (hb hby d39_15) (fun _ _ => ⟨rfl, e7, (by decide : 2 + 6 ≤ _), (by decide : 7 + 88 ≤ _)⟩)
  dsimp only [Pt.U, Pt.locs, Pt.cells, Pt.slots] at X24 l24 y24 z24 st24 hQ24 hs24 hg24
  subst l24 y24 z24
  have hk0_v25 := Nat.le_trans hk0 E1.1
  have hk0_v26 := Nat.le_trans hk0_v25 K3.1
  have hS24 : s.Since T24.vm T24.heap.size := foldS (s := s) (vm0 := s.vm) (T := T7) (U := T24) hS0 (by rw [e7]; exact hk0_v26) hs24 hg24
  have hZ24 : Z.Warmed39 (s.setVm T24.vm).vm := State.Warmed39.trans (t := s.setVm s.vm) hZ hs24.1
  have ho24 : (s.setVm T24.vm).vm.findClass "com/example/blend2/blend2/Decision" = some m.cls := by rw [show (s.setVm T24.vm).vm = T24.vm from rfl, hs24.1.alike.findClass]; exact hown
  obtain ⟨rfl, N24q, K24⟩ := hQ24
  have N24 := Fr.app N3 N24q
  have hk24 : T24.heap.size ≤ T24.heap.size := Nat.le_refl _
  refine own_go (B := T24.setTop (mkF m 18 (LS_RR r0 r1) [(.ref b1)])) (fun t k => st24.trans k) ?_
  obtain ⟨fs, hr, hrun, hended, hRW⟩ := Stand.leaveW (s := s) (vm₁ := T24.vm) X24 hS24 hk24 (v := some (.ref b1)) (fun h => by rw [Bd.returns] at h; cases h) (BodyLoose.notSynchronized Bd)
  refine ⟨_, _, ?_, hrun, hended, _, _, rfl, ?_, hRW.1, hRW.2.1, hRW.2.2.1, hRW.2.2.2.mono (by decide) (by decide)⟩
  · show Steps p.tables e below (T24.setTop (mkF m 18 (LS_RR r0 r1) [(.ref b1)])) _
    exact retOut X24 hx Bd.returns rfl (Or.inr (Or.inr (Or.inr (Or.inr ⟨rfl, rfl, rfl⟩)))) (hb hby d39_18) hr
  · show Qref Z r0 r1 wz q1 h0 n0 _ T24.heap _
    have K0_v27 := K0_v4.trans K3 all0
    have K0_v28 := K0_v27.trans K24 (allS (Or.inr sz_b1) all0)
    exact ⟨b1, rfl, N24, K0_v28⟩
theorem ef_ru5 (m : MethodId) (r0 : Addr) (r1 : Addr) (p2 : Int32) (p3 : Int32) (r4 : Addr) (r5 : Addr) : entryFrame m #[(.ref r0), (.ref r1), (.int p2), (.int p3), (.ref r4), (.ref r5)] 6 = mkF m 0 #[.val (.ref r0), .val (.ref r1), .val (.int p2), .val (.int p3), .val (.ref r4), .val (.ref r5)] [] := by first | (simp [entryFrame, mkF, argsToLocals, Value.category]; done) | rfl
theorem pn_3 : plainName "com/example/blend2/blend2/Rule" = true := by first | (simp [plainName, overriddenIn]; done) | decide +kernel
abbrev LS_RRIIRR (a0 : Addr) (a1 : Addr) (a2 : Int32) (a3 : Int32) (a4 : Addr) (a5 : Addr) : Array Slot := #[.val (.ref a0), .val (.ref a1), .val (.int a2), .val (.int a3), .val (.ref a4), .val (.ref a5)]
theorem d3_0 : decode prog_10_method_1_code 0 = .ok (.aload_n 0, 1) := by decide +kernel
theorem d3_1 : decode prog_10_method_1_code 1 = .ok (.invokespecial 1, 3) := by decide +kernel
theorem d3_4 : decode prog_10_method_1_code 4 = .ok (.aload_n 1, 1) := by decide +kernel
theorem d3_5 : decode prog_10_method_1_code 5 = .ok (.ldc 7, 2) := by decide +kernel
theorem d3_7 : decode prog_10_method_1_code 7 = .ok (.invokestatic 9, 3) := by decide +kernel
theorem d3_10 : decode prog_10_method_1_code 10 = .ok (.pop, 1) := by decide +kernel
theorem d3_11 : decode prog_10_method_1_code 11 = .ok (.aload 4, 2) := by decide +kernel
theorem d3_13 : decode prog_10_method_1_code 13 = .ok (.ldc 15, 2) := by decide +kernel
theorem d3_15 : decode prog_10_method_1_code 15 = .ok (.invokestatic 9, 3) := by decide +kernel
theorem d3_18 : decode prog_10_method_1_code 18 = .ok (.pop, 1) := by decide +kernel
theorem d3_19 : decode prog_10_method_1_code 19 = .ok (.aload 5, 2) := by decide +kernel
theorem d3_21 : decode prog_10_method_1_code 21 = .ok (.ldc 17, 2) := by decide +kernel
theorem d3_23 : decode prog_10_method_1_code 23 = .ok (.invokestatic 9, 3) := by decide +kernel
theorem d3_26 : decode prog_10_method_1_code 26 = .ok (.pop, 1) := by decide +kernel
theorem d3_27 : decode prog_10_method_1_code 27 = .ok (.iload_n 2, 1) := by decide +kernel
theorem d3_28 : decode prog_10_method_1_code 28 = .ok (.iconst 1, 1) := by decide +kernel
theorem d3_29 : decode prog_10_method_1_code 29 = .ok (.if_icmp .ge 17, 3) := by decide +kernel
theorem d3_46 : decode prog_10_method_1_code 46 = .ok (.iload_n 3, 1) := by decide +kernel
theorem d3_47 : decode prog_10_method_1_code 47 = .ok (.iconst 1, 1) := by decide +kernel
theorem d3_48 : decode prog_10_method_1_code 48 = .ok (.if_icmp .ge 17, 3) := by decide +kernel
theorem d3_65 : decode prog_10_method_1_code 65 = .ok (.aload_n 0, 1) := by decide +kernel
theorem d3_66 : decode prog_10_method_1_code 66 = .ok (.aload_n 1, 1) := by decide +kernel
theorem d3_67 : decode prog_10_method_1_code 67 = .ok (.putfield 29, 3) := by decide +kernel
theorem d3_70 : decode prog_10_method_1_code 70 = .ok (.aload_n 0, 1) := by decide +kernel
theorem d3_71 : decode prog_10_method_1_code 71 = .ok (.iload_n 2, 1) := by decide +kernel
theorem d3_72 : decode prog_10_method_1_code 72 = .ok (.putfield 34, 3) := by decide +kernel
theorem d3_75 : decode prog_10_method_1_code 75 = .ok (.aload_n 0, 1) := by decide +kernel
theorem d3_76 : decode prog_10_method_1_code 76 = .ok (.iload_n 3, 1) := by decide +kernel
theorem d3_77 : decode prog_10_method_1_code 77 = .ok (.putfield 38, 3) := by decide +kernel
theorem d3_80 : decode prog_10_method_1_code 80 = .ok (.aload_n 0, 1) := by decide +kernel
theorem d3_81 : decode prog_10_method_1_code 81 = .ok (.aload 4, 2) := by decide +kernel
theorem d3_83 : decode prog_10_method_1_code 83 = .ok (.putfield 41, 3) := by decide +kernel
theorem d3_86 : decode prog_10_method_1_code 86 = .ok (.aload_n 0, 1) := by decide +kernel
theorem d3_87 : decode prog_10_method_1_code 87 = .ok (.aload 5, 2) := by decide +kernel
theorem d3_89 : decode prog_10_method_1_code 89 = .ok (.putfield 44, 3) := by decide +kernel
theorem d3_92 : decode prog_10_method_1_code 92 = .ok (.return_, 1) := by decide +kernel
def Qru5 (Z : State) (r0 : Addr) (r1 : Addr) (p2 : Int32) (p3 : Int32) (r4 : Addr) (r5 : Addr) (h0 : Heap) (n0 : Nat) (v : Option Value) (h : Heap) (L : List Loc) : Prop := v = none ∧ Fr n0 L ∧ Keep h0 h [r0] ∧ Fld Z h r0 "com/example/blend2/blend2/Rule" "capacity" "I" (.int p2) ∧ Fld Z h r0 "com/example/blend2/blend2/Rule" "timeWindowSec" "I" (.int p3)
set_option maxRecDepth 65536 in
set_option maxHeartbeats 40000000 in
theorem rmru5 (l : Launch) (Z : State) (a0 : Array Value) (hw : ∀ d ∈ tables_1, d.before a0 Z = true) (ws : List Jvm.Cond) (r0 : Addr) (r1 : Addr) (p2 : Int32) (p3 : Int32) (r4 : Addr) (r5 : Addr) (h0 : Heap) (n0 : Nat) (Z0 : n0 ≤ h0.size) (E0 : Exa Z h0 r0 "com/example/blend2/blend2/Rule") (F0 : Fld Z h0 r0 "com/example/blend2/blend2/Rule" "name" "Ljava/lang/String;" .null) (F1 : Fld Z h0 r0 "com/example/blend2/blend2/Rule" "capacity" "I" (.int (0 : Int32))) (F2 : Fld Z h0 r0 "com/example/blend2/blend2/Rule" "timeWindowSec" "I" (.int (0 : Int32))) (F3 : Fld Z h0 r0 "com/example/blend2/blend2/Rule" "algorithm" "Lcom/example/blend2/blend2/Algorithm;" .null) (F4 : Fld Z h0 r0 "com/example/blend2/blend2/Rule" "onStoreFailure" "Lcom/example/blend2/blend2/StoreFailurePolicy;" .null) (hcap : ¬ (p2 < (1 : Int32))) (hsec : ¬ (p3 < (1 : Int32))) (g_r0 : n0 ≤ r0) :
    MetFree l (⟨"com/example/blend2/blend2/Rule", "<init>", "(Ljava/lang/String;IILcom/example/blend2/blend2/Algorithm;Lcom/example/blend2/blend2/StoreFailurePolicy;)V"⟩ : MethodName) (head1 (Jvm.Cond.code (⟨"com/example/blend2/blend2/Rule", "<init>", "(Ljava/lang/String;IILcom/example/blend2/blend2/Algorithm;Lcom/example/blend2/blend2/StoreFailurePolicy;)V"⟩ : MethodName) prog_10_method_1_code 6 none :: ws) ({ frames := 2, cells := 6, slots := 120, locals := 40 } : Room)) (fun a U => a = #[(.ref r0), (.ref r1), (.int p2), (.int p3), (.ref r4), (.ref r5)] ∧ Z.Warmed39 U.vm ∧ U.heap = h0) (fun _ _ _ _ _ => True) (fun _ U o U' => ∃ v L, o = .returned v ∧ Qru5 Z r0 r1 p2 p3 r4 r5 h0 n0 v U'.heap L ∧ ReturnedEndW U o U' L ({ frames := 2, cells := 6, slots := 120, locals := 40 } : Room).cells ({ frames := 2, cells := 6, slots := 120, locals := 40 } : Room).slots) := by
  refine MetFree.of_bodySF (plainFor_of_name pn_3) hisR ?_
  intro p e s m args below meth c s₁ Bd hml0 hP hK
  obtain ⟨rfl, hZ, hh⟩ := hP
  have hx := Bd.exec
  have hby := Bd.bytes
  have hml : c.maxLocals = 6 := hml0
  have hown : s.vm.findClass "com/example/blend2/blend2/Rule" = some m.cls := findClass_of_methodNamed Bd.named
  have hnm := (name_of_methodNamed Bd.named Bd.method).1
  have X0 : Stand p l e ({ frames := 2, cells := 6, slots := 120, locals := 40 } : Room) s m #[(.ref r0), (.ref r1), (.int p2), (.int p3), (.ref r4), (.ref r5)] below meth c s₁ [] 0 0 := Stand.of_body Bd
  have e0 : s₁.heap = h0 := by rw [← hh, Bd.state]; rfl
  have N0 := Fr.nil n0
  refine own_go (B := s₁.setTop (mkF m 0 (LS_RRIIRR r0 r1 p2 p3 r4 r5) [])) (fun t k => castTop (ef_ru5 m r0 r1 p2 p3 r4 r5) k) ?_
  have hS0 : s.Since s.vm 0 := (State.WarmedH.refl s).since 0
  have hk0 : 0 ≤ Array.size h0 := Nat.zero_le _
  have K0 : Keep h0 h0 [r0] := Keep.refl _ _
  refine own_go (B := s₁.setTop (mkF m 1 (LS_RRIIRR r0 r1 p2 p3 r4 r5) [(.ref r0)])) (fun t k => ?_) ?_
  · show Steps p.tables e below (s₁.setTop (mkF m 0 (LS_RRIIRR r0 r1 p2 p3 r4 r5) [])) _
    refine XS.aloadN X0.here hx rfl (hb hby d3_0) rfl rfl ?_
    exact k
  obtain ⟨_, _, ⟨T1, L1, k1, n1⟩, -, X1, ⟨Lc1, hQ1, l1, y1, z1⟩, st1⟩ := X0.specialBack hx (y := (⟨"java/lang/Record", "<init>", "()V"⟩ : MethodName)) rfl hown (mvT hZ (hw _ (List.mem_of_getElem? (i := 36) rfl))) (mvT hZ (hw _ (List.mem_of_getElem? (i := 37) rfl))) (mvT hZ (hw _ (List.mem_of_getElem? (i := 40) rfl))) (by decide) (backOf (W := 0) (rmrec l Z a0 hw [] r0 h0 n0 Z0) hZ (hw _ (List.mem_of_getElem? (i := 40) rfl)) (hw _ (List.mem_of_getElem? (i := 39) rfl)) (by decide) (by decide)) (g := (mkF m 1 (LS_RRIIRR r0 r1 p2 p3 r4 r5) [(.ref r0)])) rfl (by rw [hml]; rfl) (Steps.refl _) (a := r0) (argsL := []) (rest := []) (lenOf pd___V rfl) rfl (by show 2 * 0 + _ ≤ _; exact Nat.le_of_eq rfl) (hb hby d3_1) (fun _ _ => ⟨rfl, e0, (by decide : 0 + 0 ≤ _), (by decide : 0 + 0 ≤ _)⟩)
  dsimp only [Pt.U, Pt.locs, Pt.cells, Pt.slots] at X1 l1 y1 z1 st1 hQ1
  subst l1 y1 z1
  obtain ⟨rfl, N1q, e1⟩ := hQ1
  have N1 := Fr.app N0 N1q
  refine own_go (B := T1.setTop (mkF m 4 (LS_RRIIRR r0 r1 p2 p3 r4 r5) [])) (fun t k => st1.trans k) ?_
  refine own_go (B := T1.setTop (mkF m 5 (LS_RRIIRR r0 r1 p2 p3 r4 r5) [(.ref r1)])) (fun t k => ?_) ?_
  · show Steps p.tables e below (T1.setTop (mkF m 4 (LS_RRIIRR r0 r1 p2 p3 r4 r5) [])) _
    refine XS.aloadN X1.here hx rfl (hb hby d3_4) rfl rfl ?_
    exact k
  obtain ⟨sa2, T2, h2, kk2, X2, e2, E2, hS2, hk2, hZ2, ho2, st2⟩ := ldcS (s := s) (vm0 := s.vm) X1 hx hZ hown (hw _ (List.mem_of_getElem? (i := 44) rfl)) (own_strs hw) e1 hS0 hk0 (g := (mkF m 5 (LS_RRIIRR r0 r1 p2 p3 r4 r5) [(.ref r1)])) rfl (hb hby d3_5) (n := 16) (by decide) (by decide) (by decide) (by decide)
  refine own_go (B := T2.setTop (mkF m 7 (LS_RRIIRR r0 r1 p2 p3 r4 r5) [(.ref sa2), (.ref r1)])) (fun t k => st2 _ k) ?_
  have Z0_v3 := Nat.le_trans Z0 E2.1
  obtain ⟨_, _, ⟨T4, L4, k4, n4⟩, -, X4, ⟨Lc4, hQ4, l4, y4, z4⟩, st4⟩ := Jvm.LawKit.callS X2 hx (y := (⟨"java/util/Objects", "requireNonNull", "(Ljava/lang/Object;Ljava/lang/String;)Ljava/lang/Object;"⟩ : MethodName)) ho2 (mvT hZ2 (hw _ (List.mem_of_getElem? (i := 45) rfl))) (mvT hZ2 (hw _ (List.mem_of_getElem? (i := 46) rfl))) (mvT hZ2 (hw _ (List.mem_of_getElem? (i := 47) rfl))) (mvT hZ2 (hw _ (List.mem_of_getElem? (i := 48) rfl))) (by decide) (backOf (W := 0) (rmrn2 l Z a0 hw [] r1 sa2 h2 n0 Z0_v3) hZ2 (hw _ (List.mem_of_getElem? (i := 48) rfl)) (hw _ (List.mem_of_getElem? (i := 47) rfl)) (by decide) (by decide)) (g := (mkF m 7 (LS_RRIIRR r0 r1 p2 p3 r4 r5) [(.ref sa2), (.ref r1)])) rfl (by rw [hml]; rfl) (argsL := [(.ref r1), (.ref sa2)]) (rest := []) (lenOf pd__Ljava_lang_Object_Ljava_lang_String__Ljava_lang_Object_ rfl) rfl (by show 2 * 0 + _ ≤ _; exact Nat.le_of_eq rfl) (hb hby d3_7) (fun _ _ => ⟨rfl, e2, (by decide : 2 + 0 ≤ _), (by decide : 20 + 0 ≤ _)⟩)
  dsimp only [Pt.U, Pt.locs, Pt.cells, Pt.slots] at X4 l4 y4 z4 st4 hQ4
  subst l4 y4 z4
  obtain ⟨rfl, N4q, e4⟩ := hQ4
  have N4 := Fr.app N1 N4q
  refine own_go (B := T4.setTop (mkF m 10 (LS_RRIIRR r0 r1 p2 p3 r4 r5) [(.ref r1)])) (fun t k => st4 _ k) ?_
  refine own_go (B := T4.setTop (mkF m 13 (LS_RRIIRR r0 r1 p2 p3 r4 r5) [(.ref r4)])) (fun t k => ?_) ?_
  · show Steps p.tables e below (T4.setTop (mkF m 10 (LS_RRIIRR r0 r1 p2 p3 r4 r5) [(.ref r1)])) _
    refine XS.pop X4.here hx rfl (hb hby d3_10) rfl rfl ?_
    show Steps p.tables e below (T4.setTop (mkF m 11 (LS_RRIIRR r0 r1 p2 p3 r4 r5) [])) _
    refine XS.aload X4.here hx rfl (hb hby d3_11) rfl rfl ?_
    exact k
  obtain ⟨sa5, T5, h5, kk5, X5, e5, E5, hS5, hk5, hZ5, ho5, st5⟩ := ldcS (s := s) (vm0 := T2.vm) X4 hx hZ2 ho2 (hw _ (List.mem_of_getElem? (i := 49) rfl)) (own_strs hw) e4 hS2 hk2 (g := (mkF m 13 (LS_RRIIRR r0 r1 p2 p3 r4 r5) [(.ref r4)])) rfl (hb hby d3_13) (n := 36) (by decide) (by decide) (by decide) (by decide)
  refine own_go (B := T5.setTop (mkF m 15 (LS_RRIIRR r0 r1 p2 p3 r4 r5) [(.ref sa5), (.ref r4)])) (fun t k => st5 _ k) ?_
  have Z0_v6 := Nat.le_trans Z0_v3 E5.1
  obtain ⟨_, _, ⟨T7, L7, k7, n7⟩, -, X7, ⟨Lc7, hQ7, l7, y7, z7⟩, st7⟩ := Jvm.LawKit.callS X5 hx (y := (⟨"java/util/Objects", "requireNonNull", "(Ljava/lang/Object;Ljava/lang/String;)Ljava/lang/Object;"⟩ : MethodName)) ho5 (mvT hZ5 (hw _ (List.mem_of_getElem? (i := 45) rfl))) (mvT hZ5 (hw _ (List.mem_of_getElem? (i := 46) rfl))) (mvT hZ5 (hw _ (List.mem_of_getElem? (i := 47) rfl))) (mvT hZ5 (hw _ (List.mem_of_getElem? (i := 48) rfl))) (by decide) (backOf (W := 0) (rmrn2 l Z a0 hw [] r4 sa5 h5 n0 Z0_v6) hZ5 (hw _ (List.mem_of_getElem? (i := 48) rfl)) (hw _ (List.mem_of_getElem? (i := 47) rfl)) (by decide) (by decide)) (g := (mkF m 15 (LS_RRIIRR r0 r1 p2 p3 r4 r5) [(.ref sa5), (.ref r4)])) rfl (by rw [hml]; rfl) (argsL := [(.ref r4), (.ref sa5)]) (rest := []) (lenOf pd__Ljava_lang_Object_Ljava_lang_String__Ljava_lang_Object_ rfl) rfl (by show 2 * 0 + _ ≤ _; exact Nat.le_of_eq rfl) (hb hby d3_15) (fun _ _ => ⟨rfl, e5, (by decide : 4 + 0 ≤ _), (by decide : 60 + 0 ≤ _)⟩)
  dsimp only [Pt.U, Pt.locs, Pt.cells, Pt.slots] at X7 l7 y7 z7 st7 hQ7
  subst l7 y7 z7
  obtain ⟨rfl, N7q, e7⟩ := hQ7
  have N7 := Fr.app N4 N7q
  refine own_go (B := T7.setTop (mkF m 18 (LS_RRIIRR r0 r1 p2 p3 r4 r5) [(.ref r4)])) (fun t k => st7 _ k) ?_
  refine own_go (B := T7.setTop (mkF m 21 (LS_RRIIRR r0 r1 p2 p3 r4 r5) [(.ref r5)])) (fun t k => ?_) ?_
  · show Steps p.tables e below (T7.setTop (mkF m 18 (LS_RRIIRR r0 r1 p2 p3 r4 r5) [(.ref r4)])) _
    refine XS.pop X7.here hx rfl (hb hby d3_18) rfl rfl ?_
    show Steps p.tables e below (T7.setTop (mkF m 19 (LS_RRIIRR r0 r1 p2 p3 r4 r5) [])) _
    refine XS.aload X7.here hx rfl (hb hby d3_19) rfl rfl ?_
    exact k
  obtain ⟨sa8, T8, h8, kk8, X8, e8, E8, hS8, hk8, hZ8, ho8, st8⟩ := ldcS (s := s) (vm0 := T5.vm) X7 hx hZ5 ho5 (hw _ (List.mem_of_getElem? (i := 50) rfl)) (own_strs hw) e7 hS5 hk5 (g := (mkF m 21 (LS_RRIIRR r0 r1 p2 p3 r4 r5) [(.ref r5)])) rfl (hb hby d3_21) (n := 56) (by decide) (by decide) (by decide) (by decide)
  refine own_go (B := T8.setTop (mkF m 23 (LS_RRIIRR r0 r1 p2 p3 r4 r5) [(.ref sa8), (.ref r5)])) (fun t k => st8 _ k) ?_
  have Z0_v9 := Nat.le_trans Z0_v6 E8.1
  obtain ⟨_, _, ⟨T10, L10, k10, n10⟩, -, X10, ⟨Lc10, hQ10, l10, y10, z10⟩, st10⟩ := Jvm.LawKit.callS X8 hx (y := (⟨"java/util/Objects", "requireNonNull", "(Ljava/lang/Object;Ljava/lang/String;)Ljava/lang/Object;"⟩ : MethodName)) ho8 (mvT hZ8 (hw _ (List.mem_of_getElem? (i := 45) rfl))) (mvT hZ8 (hw _ (List.mem_of_getElem? (i := 46) rfl))) (mvT hZ8 (hw _ (List.mem_of_getElem? (i := 47) rfl))) (mvT hZ8 (hw _ (List.mem_of_getElem? (i := 48) rfl))) (by decide) (backOf (W := 0) (rmrn2 l Z a0 hw [] r5 sa8 h8 n0 Z0_v9) hZ8 (hw _ (List.mem_of_getElem? (i := 48) rfl)) (hw _ (List.mem_of_getElem? (i := 47) rfl)) (by decide) (by decide)) (g := (mkF m 23 (LS_RRIIRR r0 r1 p2 p3 r4 r5) [(.ref sa8), (.ref r5)])) rfl (by rw [hml]; rfl) (argsL := [(.ref r5), (.ref sa8)]) (rest := []) (lenOf pd__Ljava_lang_Object_Ljava_lang_String__Ljava_lang_Object_ rfl) rfl (by show 2 * 0 + _ ≤ _; exact Nat.le_of_eq rfl) (hb hby d3_23) (fun _ _ => ⟨rfl, e8, (by decide : 6 + 0 ≤ _), (by decide : 120 + 0 ≤ _)⟩)
  dsimp only [Pt.U, Pt.locs, Pt.cells, Pt.slots] at X10 l10 y10 z10 st10 hQ10
  subst l10 y10 z10
  obtain ⟨rfl, N10q, e10⟩ := hQ10
  have N10 := Fr.app N7 N10q
  refine own_go (B := T10.setTop (mkF m 26 (LS_RRIIRR r0 r1 p2 p3 r4 r5) [(.ref r5)])) (fun t k => st10 _ k) ?_
  refine own_go (B := T10.setTop (mkF m 67 (LS_RRIIRR r0 r1 p2 p3 r4 r5) [(.ref r1), (.ref r0)])) (fun t k => ?_) ?_
  · show Steps p.tables e below (T10.setTop (mkF m 26 (LS_RRIIRR r0 r1 p2 p3 r4 r5) [(.ref r5)])) _
    refine XS.pop X10.here hx rfl (hb hby d3_26) rfl rfl ?_
    show Steps p.tables e below (T10.setTop (mkF m 27 (LS_RRIIRR r0 r1 p2 p3 r4 r5) [])) _
    refine XS.iloadN X10.here hx rfl (hb hby d3_27) rfl ?_
    show Steps p.tables e below (T10.setTop (mkF m 28 (LS_RRIIRR r0 r1 p2 p3 r4 r5) [(.int p2)])) _
    refine XS.iconst X10.here hx rfl (hb hby d3_28) ?_
    show Steps p.tables e below (T10.setTop (mkF m 29 (LS_RRIIRR r0 r1 p2 p3 r4 r5) [(.int (1 : Int32)), (.int p2)])) _
    refine XS.icmpYes X10.here hx rfl (pc0 := 29) (pc' := 46) rfl (hb hby d3_29) rfl (flt hcap).2.1 (by decide) (by decide) ?_
    show Steps p.tables e below (T10.setTop (mkF m 46 (LS_RRIIRR r0 r1 p2 p3 r4 r5) [])) _
    refine XS.iloadN X10.here hx rfl (hb hby d3_46) rfl ?_
    show Steps p.tables e below (T10.setTop (mkF m 47 (LS_RRIIRR r0 r1 p2 p3 r4 r5) [(.int p3)])) _
    refine XS.iconst X10.here hx rfl (hb hby d3_47) ?_
    show Steps p.tables e below (T10.setTop (mkF m 48 (LS_RRIIRR r0 r1 p2 p3 r4 r5) [(.int (1 : Int32)), (.int p3)])) _
    refine XS.icmpYes X10.here hx rfl (pc0 := 48) (pc' := 65) rfl (hb hby d3_48) rfl (flt hsec).2.1 (by decide) (by decide) ?_
    show Steps p.tables e below (T10.setTop (mkF m 65 (LS_RRIIRR r0 r1 p2 p3 r4 r5) [])) _
    refine XS.aloadN X10.here hx rfl (hb hby d3_65) rfl rfl ?_
    show Steps p.tables e below (T10.setTop (mkF m 66 (LS_RRIIRR r0 r1 p2 p3 r4 r5) [(.ref r0)])) _
    refine XS.aloadN X10.here hx rfl (hb hby d3_66) rfl rfl ?_
    exact k
  have E0_v11 := E0.ext E2
  have E0_v12 := E0_v11.ext E5
  have E0_v13 := E0_v12.ext E8
  have F0_v14 := F0.ext E2
  have F0_v15 := F0_v14.ext E5
  have F0_v16 := F0_v15.ext E8
  obtain ⟨T17, h17, X17, e17, W17, st17⟩ := putF X10 hx hZ8 ho8 (host := "") (Or.inl (hw _ (List.mem_of_getElem? (i := 51) rfl))) Via.refl e10 F0_v16 E0_v13 (Or.inr ⟨(hw _ (List.mem_of_getElem? (i := 52) rfl)), rfl, hnm⟩) (hw _ (List.mem_of_getElem? (i := 12) rfl)) (ty := (.object "java/lang/String")) (by decide) rfl rfl (g := (mkF m 67 (LS_RRIIRR r0 r1 p2 p3 r4 r5) [(.ref r1), (.ref r0)])) rfl rfl (hb hby d3_67)
  have N17 := Fr.snoc X17 N10 g_r0
  have Fw17 := F0_v16.same W17
  refine own_go (B := T17.setTop (mkF m 70 (LS_RRIIRR r0 r1 p2 p3 r4 r5) [])) (fun t k => st17 _ k) ?_
  refine own_go (B := T17.setTop (mkF m 72 (LS_RRIIRR r0 r1 p2 p3 r4 r5) [(.int p2), (.ref r0)])) (fun t k => ?_) ?_
  · show Steps p.tables e below (T17.setTop (mkF m 70 (LS_RRIIRR r0 r1 p2 p3 r4 r5) [])) _
    refine XS.aloadN X17.here hx rfl (hb hby d3_70) rfl rfl ?_
    show Steps p.tables e below (T17.setTop (mkF m 71 (LS_RRIIRR r0 r1 p2 p3 r4 r5) [(.ref r0)])) _
    refine XS.iloadN X17.here hx rfl (hb hby d3_71) rfl ?_
    exact k
  have E0_v18 := E0_v13.wr W17
  have F1_v19 := F1.ext E2
  have F1_v20 := F1_v19.ext E5
  have F1_v21 := F1_v20.ext E8
  have F1_v22 := F1_v21.other W17 (Or.inr (slot_ne (Or.inr (hw _ (List.mem_of_getElem? (i := 54) rfl))) (Or.inr (hw _ (List.mem_of_getElem? (i := 52) rfl))) (by decide) (t := .int) (t' := (.object "java/lang/String")) (by decide) (by decide)))
  obtain ⟨T23, h23, X23, e23, W23, st23⟩ := putF X17 hx hZ8 ho8 (host := "") (Or.inl (hw _ (List.mem_of_getElem? (i := 53) rfl))) Via.refl e17 F1_v22 E0_v18 (Or.inr ⟨(hw _ (List.mem_of_getElem? (i := 54) rfl)), rfl, hnm⟩) (hw _ (List.mem_of_getElem? (i := 12) rfl)) (ty := .int) (by decide) rfl rfl (g := (mkF m 72 (LS_RRIIRR r0 r1 p2 p3 r4 r5) [(.int p2), (.ref r0)])) rfl rfl (hb hby d3_72)
  have N23 := Fr.snoc X23 N17 g_r0
  have Fw23 := F1_v22.same W23
  refine own_go (B := T23.setTop (mkF m 75 (LS_RRIIRR r0 r1 p2 p3 r4 r5) [])) (fun t k => st23 _ k) ?_
  refine own_go (B := T23.setTop (mkF m 77 (LS_RRIIRR r0 r1 p2 p3 r4 r5) [(.int p3), (.ref r0)])) (fun t k => ?_) ?_
  · show Steps p.tables e below (T23.setTop (mkF m 75 (LS_RRIIRR r0 r1 p2 p3 r4 r5) [])) _
    refine XS.aloadN X23.here hx rfl (hb hby d3_75) rfl rfl ?_
    show Steps p.tables e below (T23.setTop (mkF m 76 (LS_RRIIRR r0 r1 p2 p3 r4 r5) [(.ref r0)])) _
    refine XS.iloadN X23.here hx rfl (hb hby d3_76) rfl ?_
    exact k
  have E0_v24 := E0_v18.wr W23
  have F2_v25 := F2.ext E2
  have F2_v26 := F2_v25.ext E5
  have F2_v27 := F2_v26.ext E8
  have F2_v28 := F2_v27.other W17 (Or.inr (slot_ne (Or.inr (hw _ (List.mem_of_getElem? (i := 56) rfl))) (Or.inr (hw _ (List.mem_of_getElem? (i := 52) rfl))) (by decide) (t := .int) (t' := (.object "java/lang/String")) (by decide) (by decide)))
  have F2_v29 := F2_v28.other W23 (Or.inr (slot_ne (Or.inr (hw _ (List.mem_of_getElem? (i := 56) rfl))) (Or.inr (hw _ (List.mem_of_getElem? (i := 54) rfl))) (by decide) (t := .int) (t' := .int) (by decide) (by decide)))
  obtain ⟨T30, h30, X30, e30, W30, st30⟩ := putF X23 hx hZ8 ho8 (host := "") (Or.inl (hw _ (List.mem_of_getElem? (i := 55) rfl))) Via.refl e23 F2_v29 E0_v24 (Or.inr ⟨(hw _ (List.mem_of_getElem? (i := 56) rfl)), rfl, hnm⟩) (hw _ (List.mem_of_getElem? (i := 12) rfl)) (ty := .int) (by decide) rfl rfl (g := (mkF m 77 (LS_RRIIRR r0 r1 p2 p3 r4 r5) [(.int p3), (.ref r0)])) rfl rfl (hb hby d3_77)
  have N30 := Fr.snoc X30 N23 g_r0
  have Fw30 := F2_v29.same W30
  refine own_go (B := T30.setTop (mkF m 80 (LS_RRIIRR r0 r1 p2 p3 r4 r5) [])) (fun t k => st30 _ k) ?_
  refine own_go (B := T30.setTop (mkF m 83 (LS_RRIIRR r0 r1 p2 p3 r4 r5) [(.ref r4), (.ref r0)])) (fun t k => ?_) ?_
  · show Steps p.tables e below (T30.setTop (mkF m 80 (LS_RRIIRR r0 r1 p2 p3 r4 r5) [])) _
    refine XS.aloadN X30.here hx rfl (hb hby d3_80) rfl rfl ?_
    show Steps p.tables e below (T30.setTop (mkF m 81 (LS_RRIIRR r0 r1 p2 p3 r4 r5) [(.ref r0)])) _
    refine XS.aload X30.here hx rfl (hb hby d3_81) rfl rfl ?_
    exact k
  have E0_v31 := E0_v24.wr W30
  have F3_v32 := F3.ext E2
  have F3_v33 := F3_v32.ext E5
  have F3_v34 := F3_v33.ext E8
  have F3_v35 := F3_v34.other W17 (Or.inr (slot_ne (Or.inr (hw _ (List.mem_of_getElem? (i := 58) rfl))) (Or.inr (hw _ (List.mem_of_getElem? (i := 52) rfl))) (by decide) (t := (.object "com/example/blend2/blend2/Algorithm")) (t' := (.object "java/lang/String")) (by decide) (by decide)))
  have F3_v36 := F3_v35.other W23 (Or.inr (slot_ne (Or.inr (hw _ (List.mem_of_getElem? (i := 58) rfl))) (Or.inr (hw _ (List.mem_of_getElem? (i := 54) rfl))) (by decide) (t := (.object "com/example/blend2/blend2/Algorithm")) (t' := .int) (by decide) (by decide)))
  have F3_v37 := F3_v36.other W30 (Or.inr (slot_ne (Or.inr (hw _ (List.mem_of_getElem? (i := 58) rfl))) (Or.inr (hw _ (List.mem_of_getElem? (i := 56) rfl))) (by decide) (t := (.object "com/example/blend2/blend2/Algorithm")) (t' := .int) (by decide) (by decide)))
  obtain ⟨T38, h38, X38, e38, W38, st38⟩ := putF X30 hx hZ8 ho8 (host := "") (Or.inl (hw _ (List.mem_of_getElem? (i := 57) rfl))) Via.refl e30 F3_v37 E0_v31 (Or.inr ⟨(hw _ (List.mem_of_getElem? (i := 58) rfl)), rfl, hnm⟩) (hw _ (List.mem_of_getElem? (i := 12) rfl)) (ty := (.object "com/example/blend2/blend2/Algorithm")) (by decide) rfl rfl (g := (mkF m 83 (LS_RRIIRR r0 r1 p2 p3 r4 r5) [(.ref r4), (.ref r0)])) rfl rfl (hb hby d3_83)
  have N38 := Fr.snoc X38 N30 g_r0
  have Fw38 := F3_v37.same W38
  refine own_go (B := T38.setTop (mkF m 86 (LS_RRIIRR r0 r1 p2 p3 r4 r5) [])) (fun t k => st38 _ k) ?_
  refine own_go (B := T38.setTop (mkF m 89 (LS_RRIIRR r0 r1 p2 p3 r4 r5) [(.ref r5), (.ref r0)])) (fun t k => ?_) ?_
  · show Steps p.tables e below (T38.setTop (mkF m 86 (LS_RRIIRR r0 r1 p2 p3 r4 r5) [])) _
    refine XS.aloadN X38.here hx rfl (hb hby d3_86) rfl rfl ?_
    show Steps p.tables e below (T38.setTop (mkF m 87 (LS_RRIIRR r0 r1 p2 p3 r4 r5) [(.ref r0)])) _
    refine XS.aload X38.here hx rfl (hb hby d3_87) rfl rfl ?_
    exact k
  have E0_v39 := E0_v31.wr W38
  have F4_v40 := F4.ext E2
  have F4_v41 := F4_v40.ext E5
  have F4_v42 := F4_v41.ext E8
  have F4_v43 := F4_v42.other W17 (Or.inr (slot_ne (Or.inr (hw _ (List.mem_of_getElem? (i := 60) rfl))) (Or.inr (hw _ (List.mem_of_getElem? (i := 52) rfl))) (by decide) (t := (.object "com/example/blend2/blend2/StoreFailurePolicy")) (t' := (.object "java/lang/String")) (by decide) (by decide)))
  have F4_v44 := F4_v43.other W23 (Or.inr (slot_ne (Or.inr (hw _ (List.mem_of_getElem? (i := 60) rfl))) (Or.inr (hw _ (List.mem_of_getElem? (i := 54) rfl))) (by decide) (t := (.object "com/example/blend2/blend2/StoreFailurePolicy")) (t' := .int) (by decide) (by decide)))
  have F4_v45 := F4_v44.other W30 (Or.inr (slot_ne (Or.inr (hw _ (List.mem_of_getElem? (i := 60) rfl))) (Or.inr (hw _ (List.mem_of_getElem? (i := 56) rfl))) (by decide) (t := (.object "com/example/blend2/blend2/StoreFailurePolicy")) (t' := .int) (by decide) (by decide)))
  have F4_v46 := F4_v45.other W38 (Or.inr (slot_ne (Or.inr (hw _ (List.mem_of_getElem? (i := 60) rfl))) (Or.inr (hw _ (List.mem_of_getElem? (i := 58) rfl))) (by decide) (t := (.object "com/example/blend2/blend2/StoreFailurePolicy")) (t' := (.object "com/example/blend2/blend2/Algorithm")) (by decide) (by decide)))
  obtain ⟨T47, h47, X47, e47, W47, st47⟩ := putF X38 hx hZ8 ho8 (host := "") (Or.inl (hw _ (List.mem_of_getElem? (i := 59) rfl))) Via.refl e38 F4_v46 E0_v39 (Or.inr ⟨(hw _ (List.mem_of_getElem? (i := 60) rfl)), rfl, hnm⟩) (hw _ (List.mem_of_getElem? (i := 12) rfl)) (ty := (.object "com/example/blend2/blend2/StoreFailurePolicy")) (by decide) rfl rfl (g := (mkF m 89 (LS_RRIIRR r0 r1 p2 p3 r4 r5) [(.ref r5), (.ref r0)])) rfl rfl (hb hby d3_89)
  have N47 := Fr.snoc X47 N38 g_r0
  have Fw47 := F4_v46.same W47
  refine own_go (B := T47.setTop (mkF m 92 (LS_RRIIRR r0 r1 p2 p3 r4 r5) [])) (fun t k => st47 _ k) ?_
  have hk8_v48 := Nat.le_trans hk8 (Nat.le_of_eq W17.size.symm)
  have hk8_v49 := Nat.le_trans hk8_v48 (Nat.le_of_eq W23.size.symm)
  have hk8_v50 := Nat.le_trans hk8_v49 (Nat.le_of_eq W30.size.symm)
  have hk8_v51 := Nat.le_trans hk8_v50 (Nat.le_of_eq W38.size.symm)
  have hk8_v52 := Nat.le_trans hk8_v51 (Nat.le_of_eq W47.size.symm)
  obtain ⟨fs, hr, hrun, hended, hRW⟩ := Stand.leaveW (s := s) (vm₁ := T8.vm) X47 hS8 (by rw [e47]; exact hk8_v52) (v := none) (fun _ => rfl) (BodyLoose.notSynchronized Bd)
  refine ⟨_, _, ?_, hrun, hended, _, _, rfl, ?_, hRW.1, hRW.2.1, hRW.2.2.1, hRW.2.2.2.mono (by decide) (by decide)⟩
  · show Steps p.tables e below (T47.setTop (mkF m 92 (LS_RRIIRR r0 r1 p2 p3 r4 r5) [])) _
    exact X47.returnOut hx Bd.returns (hb hby d3_92) hr
  · show Qru5 Z r0 r1 p2 p3 r4 r5 h0 n0 _ T47.heap _
    rw [e47]
    have K0_v53 := K0.ext E2
    have K0_v54 := K0_v53.ext E5
    have K0_v55 := K0_v54.ext E8
    have K0_v56 := K0_v55.wr W17 (Or.inl (List.mem_of_getElem? (i := 0) rfl))
    have K0_v57 := K0_v56.wr W23 (Or.inl (List.mem_of_getElem? (i := 0) rfl))
    have K0_v58 := K0_v57.wr W30 (Or.inl (List.mem_of_getElem? (i := 0) rfl))
    have K0_v59 := K0_v58.wr W38 (Or.inl (List.mem_of_getElem? (i := 0) rfl))
    have K0_v60 := K0_v59.wr W47 (Or.inl (List.mem_of_getElem? (i := 0) rfl))
    have Fw23_v61 := Fw23.other W30 (Or.inr (slot_ne (Or.inr (hw _ (List.mem_of_getElem? (i := 54) rfl))) (Or.inr (hw _ (List.mem_of_getElem? (i := 56) rfl))) (by decide) (t := .int) (t' := .int) (by decide) (by decide)))
    have Fw23_v62 := Fw23_v61.other W38 (Or.inr (slot_ne (Or.inr (hw _ (List.mem_of_getElem? (i := 54) rfl))) (Or.inr (hw _ (List.mem_of_getElem? (i := 58) rfl))) (by decide) (t := .int) (t' := (.object "com/example/blend2/blend2/Algorithm")) (by decide) (by decide)))
    have Fw23_v63 := Fw23_v62.other W47 (Or.inr (slot_ne (Or.inr (hw _ (List.mem_of_getElem? (i := 54) rfl))) (Or.inr (hw _ (List.mem_of_getElem? (i := 60) rfl))) (by decide) (t := .int) (t' := (.object "com/example/blend2/blend2/StoreFailurePolicy")) (by decide) (by decide)))
    have Fw30_v64 := Fw30.other W38 (Or.inr (slot_ne (Or.inr (hw _ (List.mem_of_getElem? (i := 56) rfl))) (Or.inr (hw _ (List.mem_of_getElem? (i := 58) rfl))) (by decide) (t := .int) (t' := (.object "com/example/blend2/blend2/Algorithm")) (by decide) (by decide)))
    have Fw30_v65 := Fw30_v64.other W47 (Or.inr (slot_ne (Or.inr (hw _ (List.mem_of_getElem? (i := 56) rfl))) (Or.inr (hw _ (List.mem_of_getElem? (i := 60) rfl))) (by decide) (t := .int) (t' := (.object "com/example/blend2/blend2/StoreFailurePolicy")) (by decide) (by decide)))
    exact ⟨rfl, N47, K0_v60, Fw23_v63, Fw30_v65⟩
theorem ef_ru3 (m : MethodId) (r0 : Addr) (r1 : Addr) (p2 : Int32) (p3 : Int32) : entryFrame m #[(.ref r0), (.ref r1), (.int p2), (.int p3)] 4 = mkF m 0 #[.val (.ref r0), .val (.ref r1), .val (.int p2), .val (.int p3)] [] := by first | (simp [entryFrame, mkF, argsToLocals, Value.category]; done) | rfl
theorem pn_2 : plainName "com/example/blend2/blend2/Rule" = true := by first | (simp [plainName, overriddenIn]; done) | decide +kernel
abbrev LS_RRII (a0 : Addr) (a1 : Addr) (a2 : Int32) (a3 : Int32) : Array Slot := #[.val (.ref a0), .val (.ref a1), .val (.int a2), .val (.int a3)]
theorem d2_0 : decode prog_10_method_2_code 0 = .ok (.aload_n 0, 1) := by decide +kernel
theorem d2_1 : decode prog_10_method_2_code 1 = .ok (.aload_n 1, 1) := by decide +kernel
theorem d2_2 : decode prog_10_method_2_code 2 = .ok (.iload_n 2, 1) := by decide +kernel
theorem d2_3 : decode prog_10_method_2_code 3 = .ok (.iload_n 3, 1) := by decide +kernel
theorem d2_4 : decode prog_10_method_2_code 4 = .ok (.getstatic 47, 3) := by decide +kernel
theorem d2_7 : decode prog_10_method_2_code 7 = .ok (.getstatic 50, 3) := by decide +kernel
theorem d2_10 : decode prog_10_method_2_code 10 = .ok (.invokespecial 53, 3) := by decide +kernel
theorem pd__Ljava_lang_String_IILcom_example_blend2_blend2_Algorithm_Lcom_example_blend2_blend2_StoreFailurePolicy__V : parseMethodDescriptor "(Ljava/lang/String;IILcom/example/blend2/blend2/Algorithm;Lcom/example/blend2/blend2/StoreFailurePolicy;)V" = some ⟨[(.object "java/lang/String"), .int, .int, (.object "com/example/blend2/blend2/Algorithm"), (.object "com/example/blend2/blend2/StoreFailurePolicy")], none⟩ := by decide +kernel
theorem d2_13 : decode prog_10_method_2_code 13 = .ok (.return_, 1) := by decide +kernel
def Qru3 (Z : State) (r0 : Addr) (r1 : Addr) (p2 : Int32) (p3 : Int32) (wA wS : Addr) (h0 : Heap) (n0 : Nat) (v : Option Value) (h : Heap) (L : List Loc) : Prop := v = none ∧ Fr n0 L ∧ Keep h0 h [r0] ∧ Fld Z h r0 "com/example/blend2/blend2/Rule" "capacity" "I" (.int p2) ∧ Fld Z h r0 "com/example/blend2/blend2/Rule" "timeWindowSec" "I" (.int p3)
set_option maxRecDepth 65536 in
set_option maxHeartbeats 40000000 in
theorem rmru3 (l : Launch) (Z : State) (a0 : Array Value) (hw : ∀ d ∈ tables_1, d.before a0 Z = true) (ws : List Jvm.Cond) (r0 : Addr) (r1 : Addr) (p2 : Int32) (p3 : Int32) (wA wS : Addr) (h0 : Heap) (n0 : Nat) (Z0 : n0 ≤ h0.size) (S_DEFAULT_ALGORITHM : Sta Z h0 "com/example/blend2/blend2/Rule" "DEFAULT_ALGORITHM" "Lcom/example/blend2/blend2/Algorithm;" (.ref wA)) (S_DEFAULT_STORE_FAILURE_POLICY : Sta Z h0 "com/example/blend2/blend2/Rule" "DEFAULT_STORE_FAILURE_POLICY" "Lcom/example/blend2/blend2/StoreFailurePolicy;" (.ref wS)) (E0 : Exa Z h0 r0 "com/example/blend2/blend2/Rule") (F0 : Fld Z h0 r0 "com/example/blend2/blend2/Rule" "name" "Ljava/lang/String;" .null) (F1 : Fld Z h0 r0 "com/example/blend2/blend2/Rule" "capacity" "I" (.int (0 : Int32))) (F2 : Fld Z h0 r0 "com/example/blend2/blend2/Rule" "timeWindowSec" "I" (.int (0 : Int32))) (F3 : Fld Z h0 r0 "com/example/blend2/blend2/Rule" "algorithm" "Lcom/example/blend2/blend2/Algorithm;" .null) (F4 : Fld Z h0 r0 "com/example/blend2/blend2/Rule" "onStoreFailure" "Lcom/example/blend2/blend2/StoreFailurePolicy;" .null) (hcap : ¬ (p2 < (1 : Int32))) (hsec : ¬ (p3 < (1 : Int32))) (g_r0 : n0 ≤ r0) :
    MetFree l (⟨"com/example/blend2/blend2/Rule", "<init>", "(Ljava/lang/String;II)V"⟩ : MethodName) (head1 (Jvm.Cond.code (⟨"com/example/blend2/blend2/Rule", "<init>", "(Ljava/lang/String;II)V"⟩ : MethodName) prog_10_method_2_code 4 none :: ws) ({ frames := 3, cells := 6, slots := 120, locals := 70 } : Room)) (fun a U => a = #[(.ref r0), (.ref r1), (.int p2), (.int p3)] ∧ Z.Warmed39 U.vm ∧ U.heap = h0) (fun _ _ _ _ _ => True) (fun _ U o U' => ∃ v L, o = .returned v ∧ Qru3 Z r0 r1 p2 p3 wA wS h0 n0 v U'.heap L ∧ ReturnedEndW U o U' L ({ frames := 3, cells := 6, slots := 120, locals := 70 } : Room).cells ({ frames := 3, cells := 6, slots := 120, locals := 70 } : Room).slots) := by
  refine MetFree.of_bodySF (plainFor_of_name pn_2) hisR ?_
  intro p e s m args below meth c s₁ Bd hml0 hP hK
  obtain ⟨rfl, hZ, hh⟩ := hP
  have hx := Bd.exec
  have hby := Bd.bytes
  have hml : c.maxLocals = 4 := hml0
  have hown : s.vm.findClass "com/example/blend2/blend2/Rule" = some m.cls := findClass_of_methodNamed Bd.named
  have hnm := (name_of_methodNamed Bd.named Bd.method).1
  have X0 : Stand p l e ({ frames := 3, cells := 6, slots := 120, locals := 70 } : Room) s m #[(.ref r0), (.ref r1), (.int p2), (.int p3)] below meth c s₁ [] 0 0 := Stand.of_body Bd
  have e0 : s₁.heap = h0 := by rw [← hh, Bd.state]; rfl
  have N0 := Fr.nil n0
  refine own_go (B := s₁.setTop (mkF m 0 (LS_RRII r0 r1 p2 p3) [])) (fun t k => castTop (ef_ru3 m r0 r1 p2 p3) k) ?_
  have hS0 : s.Since s.vm 0 := (State.WarmedH.refl s).since 0
  have hk0 : 0 ≤ Array.size h0 := Nat.zero_le _
  have K0 : Keep h0 h0 [r0] := Keep.refl _ _
  refine own_go (B := s₁.setTop (mkF m 4 (LS_RRII r0 r1 p2 p3) [(.int p3), (.int p2), (.ref r1), (.ref r0)])) (fun t k => ?_) ?_
  · show Steps p.tables e below (s₁.setTop (mkF m 0 (LS_RRII r0 r1 p2 p3) [])) _
    refine XS.aloadN X0.here hx rfl (hb hby d2_0) rfl rfl ?_
    show Steps p.tables e below (s₁.setTop (mkF m 1 (LS_RRII r0 r1 p2 p3) [(.ref r0)])) _
    refine XS.aloadN X0.here hx rfl (hb hby d2_1) rfl rfl ?_
    show Steps p.tables e below (s₁.setTop (mkF m 2 (LS_RRII r0 r1 p2 p3) [(.ref r1), (.ref r0)])) _
    refine XS.iloadN X0.here hx rfl (hb hby d2_2) rfl ?_
    show Steps p.tables e below (s₁.setTop (mkF m 3 (LS_RRII r0 r1 p2 p3) [(.int p2), (.ref r1), (.ref r0)])) _
    refine XS.iloadN X0.here hx rfl (hb hby d2_3) rfl ?_
    exact k
  obtain ⟨T1, X1, e1, st1⟩ := getS2 X0 hx hZ hown (host := "") (Or.inl (hw _ (List.mem_of_getElem? (i := 25) rfl))) Via.refl e0 S_DEFAULT_ALGORITHM (g := (mkF m 4 (LS_RRII r0 r1 p2 p3) [(.int p3), (.int p2), (.ref r1), (.ref r0)])) rfl (hb hby d2_4)
  refine own_go (B := T1.setTop (mkF m 7 (LS_RRII r0 r1 p2 p3) [(.ref wA), (.int p3), (.int p2), (.ref r1), (.ref r0)])) (fun t k => st1 _ k) ?_
  obtain ⟨T2, X2, e2, st2⟩ := getS2 X1 hx hZ hown (host := "") (Or.inl (hw _ (List.mem_of_getElem? (i := 29) rfl))) Via.refl e1 S_DEFAULT_STORE_FAILURE_POLICY (g := (mkF m 7 (LS_RRII r0 r1 p2 p3) [(.ref wA), (.int p3), (.int p2), (.ref r1), (.ref r0)])) rfl (hb hby d2_7)
  refine own_go (B := T2.setTop (mkF m 10 (LS_RRII r0 r1 p2 p3) [(.ref wS), (.ref wA), (.int p3), (.int p2), (.ref r1), (.ref r0)])) (fun t k => st2 _ k) ?_
  obtain ⟨_, _, ⟨T3, L3, k3, n3⟩, -, X3, hs3, hg3, ⟨Lc3, hQ3, l3, y3, z3⟩, st3⟩ := X2.specialBackS hx (y := (⟨"com/example/blend2/blend2/Rule", "<init>", "(Ljava/lang/String;IILcom/example/blend2/blend2/Algorithm;Lcom/example/blend2/blend2/StoreFailurePolicy;)V"⟩ : MethodName)) rfl hown (mvT hZ (hw _ (List.mem_of_getElem? (i := 33) rfl))) (mvT hZ (hw _ (List.mem_of_getElem? (i := 34) rfl))) (mvT hZ (hw _ (List.mem_of_getElem? (i := 35) rfl))) (by decide) (backOfS (W := 0) (rmru5 l Z a0 hw [] r0 r1 p2 p3 wA wS h0 n0 Z0 E0 F0 F1 F2 F3 F4 hcap hsec g_r0) hZ (hw _ (List.mem_of_getElem? (i := 35) rfl)) (hw _ (List.mem_of_getElem? (i := 13) rfl)) (by decide) (by decide)) (g := (mkF m 10 (LS_RRII r0 r1 p2 p3) [(.ref wS), (.ref wA), (.int p3), (.int p2), (.ref r1), (.ref r0)])) rfl (by rw [hml]; rfl) (Steps.refl _) (a := r0) (argsL := [(.ref r1), (.int p2), (.int p3), (.ref wA), (.ref wS)]) (rest := []) (lenOf pd__Ljava_lang_String_IILcom_example_blend2_blend2_Algorithm_Lcom_example_blend2_blend2_StoreFailurePolicy__V rfl) rfl (by show 2 * 0 + _ ≤ _; exact Nat.le_of_eq rfl) (hb hby d2_10) (fun _ _ => ⟨rfl, e2, (by decide : 0 + 6 ≤ _), (by decide : 0 + 120 ≤ _)⟩)
  dsimp only [Pt.U, Pt.locs, Pt.cells, Pt.slots] at X3 l3 y3 z3 st3 hQ3 hs3 hg3
  subst l3 y3 z3
  have hS3 : s.Since T3.vm T3.heap.size := foldS (s := s) (vm0 := s.vm) (T := T2) (U := T3) hS0 (by rw [e2]; exact hk0) hs3 hg3
  have hZ3 : Z.Warmed39 (s.setVm T3.vm).vm := State.Warmed39.trans (t := s.setVm s.vm) hZ hs3.1
  have ho3 : (s.setVm T3.vm).vm.findClass "com/example/blend2/blend2/Rule" = some m.cls := by rw [show (s.setVm T3.vm).vm = T3.vm from rfl, hs3.1.alike.findClass]; exact hown
  obtain ⟨rfl, N3q, K3, Fc3, Ft3⟩ := hQ3
  have N3 := Fr.app N0 N3q
  have hk3 : T3.heap.size ≤ T3.heap.size := Nat.le_refl _
  refine own_go (B := T3.setTop (mkF m 13 (LS_RRII r0 r1 p2 p3) [])) (fun t k => st3.trans k) ?_
  obtain ⟨fs, hr, hrun, hended, hRW⟩ := Stand.leaveW (s := s) (vm₁ := T3.vm) X3 hS3 hk3 (v := none) (fun _ => rfl) (BodyLoose.notSynchronized Bd)
  refine ⟨_, _, ?_, hrun, hended, _, _, rfl, ?_, hRW.1, hRW.2.1, hRW.2.2.1, hRW.2.2.2.mono (by decide) (by decide)⟩
  · show Steps p.tables e below (T3.setTop (mkF m 13 (LS_RRII r0 r1 p2 p3) [])) _
    exact X3.returnOut hx Bd.returns (hb hby d2_13) hr
  · show Qru3 Z r0 r1 p2 p3 wA wS h0 n0 _ T3.heap _
    have K0_v4 := K0.trans K3 (allS (Or.inl (List.mem_of_getElem? (i := 0) rfl)) all0)
    exact ⟨rfl, N3, K0_v4, Fc3, Ft3⟩
theorem ef_num (m : MethodId) (r0 : Addr) : entryFrame m #[(.ref r0)] 1 = mkF m 0 #[.val (.ref r0)] [] := by first | (simp [entryFrame, mkF, argsToLocals, Value.category]; done) | rfl
theorem pn_19 : plainName "java/lang/Number" = true := by first | (simp [plainName, overriddenIn]; done) | decide +kernel
theorem d19_0 : decode jdk_18_method_1_code 0 = .ok (.aload_n 0, 1) := by decide +kernel
theorem d19_1 : decode jdk_18_method_1_code 1 = .ok (.invokespecial 1, 3) := by decide +kernel
theorem d19_4 : decode jdk_18_method_1_code 4 = .ok (.return_, 1) := by decide +kernel
def Qnum (Z : State) (r0 : Addr) (h0 : Heap) (n0 : Nat) (v : Option Value) (h : Heap) (L : List Loc) : Prop := v = none ∧ Fr n0 L ∧ h = h0
set_option maxRecDepth 65536 in
set_option maxHeartbeats 40000000 in
theorem rmnum (l : Launch) (Z : State) (a0 : Array Value) (hw : ∀ d ∈ tables_1, d.before a0 Z = true) (ws : List Jvm.Cond) (r0 : Addr) (h0 : Heap) (n0 : Nat) (Z0 : n0 ≤ h0.size) :
    MetFree l (⟨"java/lang/Number", "<init>", "()V"⟩ : MethodName) (head1 (Jvm.Cond.code (⟨"java/lang/Number", "<init>", "()V"⟩ : MethodName) jdk_18_method_1_code 1 none :: ws) ({ frames := 1, cells := 0, slots := 0, locals := 12 } : Room)) (fun a U => a = #[(.ref r0)] ∧ Z.Warmed39 U.vm ∧ U.heap = h0) (fun _ _ _ _ _ => True) (fun _ U o U' => ∃ v L, o = .returned v ∧ Qnum Z r0 h0 n0 v U'.heap L ∧ FrameEnd U o U' L ({ frames := 1, cells := 0, slots := 0, locals := 12 } : Room).cells ({ frames := 1, cells := 0, slots := 0, locals := 12 } : Room).slots) := by
  refine MetFree.of_bodySF (plainFor_of_name pn_19) hisR ?_
  intro p e s m args below meth c s₁ Bd hml0 hP hK
  obtain ⟨rfl, hZ, hh⟩ := hP
  have hx := Bd.exec
  have hby := Bd.bytes
  have hml : c.maxLocals = 1 := hml0
  have hown : s.vm.findClass "java/lang/Number" = some m.cls := findClass_of_methodNamed Bd.named
  have hnm := (name_of_methodNamed Bd.named Bd.method).1
  have X0 : Stand p l e ({ frames := 1, cells := 0, slots := 0, locals := 12 } : Room) s m #[(.ref r0)] below meth c s₁ [] 0 0 := Stand.of_body Bd
  have e0 : s₁.heap = h0 := by rw [← hh, Bd.state]; rfl
  have N0 := Fr.nil n0
  refine own_go (B := s₁.setTop (mkF m 0 (LS_R r0) [])) (fun t k => castTop (ef_num m r0) k) ?_
  refine own_go (B := s₁.setTop (mkF m 1 (LS_R r0) [(.ref r0)])) (fun t k => ?_) ?_
  · show Steps p.tables e below (s₁.setTop (mkF m 0 (LS_R r0) [])) _
    refine XS.aloadN X0.here hx rfl (hb hby d19_0) rfl rfl ?_
    exact k
  obtain ⟨T1, X1, e1, st1⟩ := initO X0 hx hZ hown (hw _ (List.mem_of_getElem? (i := 143) rfl)) (hw _ (List.mem_of_getElem? (i := 42) rfl)) (hw _ (List.mem_of_getElem? (i := 43) rfl)) e0 (g := (mkF m 1 (LS_R r0) [(.ref r0)])) rfl (by rw [hml]; rfl) rfl (hb hby d19_1) (by decide) (W := 0) (by show 2 * 0 + _ ≤ _; exact Nat.le_of_eq rfl) (by decide)
  refine own_go (B := T1.setTop (mkF m 4 (LS_R r0) [])) (fun t k => st1 _ k) ?_
  obtain ⟨fs, hr, hrun, hended, hW, hsame⟩ := X1.leave (v := none) (fun _ => rfl) (BodyLoose.notSynchronized Bd)
  refine ⟨_, _, ?_, hrun, hended, _, _, rfl, ?_, ⟨_, rfl⟩, hW, hsame.mono (by decide) (by decide)⟩
  · show Steps p.tables e below (T1.setTop (mkF m 4 (LS_R r0) [])) _
    exact X1.returnOut hx Bd.returns (hb hby d19_4) hr
  · show Qnum Z r0 h0 n0 _ T1.heap _
    rw [e1]
    exact ⟨rfl, N0, rfl⟩
theorem ef_abc (m : MethodId) (r0 : Addr) : entryFrame m #[(.ref r0)] 1 = mkF m 0 #[.val (.ref r0)] [] := by first | (simp [entryFrame, mkF, argsToLocals, Value.category]; done) | rfl
theorem pn_9 : plainName "java/util/AbstractCollection" = true := by first | (simp [plainName, overriddenIn]; done) | decide +kernel
theorem d9_0 : decode jdk_22_method_1_code 0 = .ok (.aload_n 0, 1) := by decide +kernel
theorem d9_1 : decode jdk_22_method_1_code 1 = .ok (.invokespecial 1, 3) := by decide +kernel
theorem d9_4 : decode jdk_22_method_1_code 4 = .ok (.return_, 1) := by decide +kernel
def Qabc (Z : State) (r0 : Addr) (h0 : Heap) (n0 : Nat) (v : Option Value) (h : Heap) (L : List Loc) : Prop := v = none ∧ Fr n0 L ∧ h = h0
set_option maxRecDepth 65536 in
set_option maxHeartbeats 40000000 in
theorem rmabc (l : Launch) (Z : State) (a0 : Array Value) (hw : ∀ d ∈ tables_1, d.before a0 Z = true) (ws : List Jvm.Cond) (r0 : Addr) (h0 : Heap) (n0 : Nat) (Z0 : n0 ≤ h0.size) :
    MetFree l (⟨"java/util/AbstractCollection", "<init>", "()V"⟩ : MethodName) (head1 (Jvm.Cond.code (⟨"java/util/AbstractCollection", "<init>", "()V"⟩ : MethodName) jdk_22_method_1_code 1 none :: ws) ({ frames := 1, cells := 0, slots := 0, locals := 12 } : Room)) (fun a U => a = #[(.ref r0)] ∧ Z.Warmed39 U.vm ∧ U.heap = h0) (fun _ _ _ _ _ => True) (fun _ U o U' => ∃ v L, o = .returned v ∧ Qabc Z r0 h0 n0 v U'.heap L ∧ FrameEnd U o U' L ({ frames := 1, cells := 0, slots := 0, locals := 12 } : Room).cells ({ frames := 1, cells := 0, slots := 0, locals := 12 } : Room).slots) := by
  refine MetFree.of_bodySF (plainFor_of_name pn_9) hisR ?_
  intro p e s m args below meth c s₁ Bd hml0 hP hK
  obtain ⟨rfl, hZ, hh⟩ := hP
  have hx := Bd.exec
  have hby := Bd.bytes
  have hml : c.maxLocals = 1 := hml0
  have hown : s.vm.findClass "java/util/AbstractCollection" = some m.cls := findClass_of_methodNamed Bd.named
  have hnm := (name_of_methodNamed Bd.named Bd.method).1
  have X0 : Stand p l e ({ frames := 1, cells := 0, slots := 0, locals := 12 } : Room) s m #[(.ref r0)] below meth c s₁ [] 0 0 := Stand.of_body Bd
  have e0 : s₁.heap = h0 := by rw [← hh, Bd.state]; rfl
  have N0 := Fr.nil n0
  refine own_go (B := s₁.setTop (mkF m 0 (LS_R r0) [])) (fun t k => castTop (ef_abc m r0) k) ?_
  refine own_go (B := s₁.setTop (mkF m 1 (LS_R r0) [(.ref r0)])) (fun t k => ?_) ?_
  · show Steps p.tables e below (s₁.setTop (mkF m 0 (LS_R r0) [])) _
    refine XS.aloadN X0.here hx rfl (hb hby d9_0) rfl rfl ?_
    exact k
  obtain ⟨T1, X1, e1, st1⟩ := initO X0 hx hZ hown (hw _ (List.mem_of_getElem? (i := 77) rfl)) (hw _ (List.mem_of_getElem? (i := 42) rfl)) (hw _ (List.mem_of_getElem? (i := 43) rfl)) e0 (g := (mkF m 1 (LS_R r0) [(.ref r0)])) rfl (by rw [hml]; rfl) rfl (hb hby d9_1) (by decide) (W := 0) (by show 2 * 0 + _ ≤ _; exact Nat.le_of_eq rfl) (by decide)
  refine own_go (B := T1.setTop (mkF m 4 (LS_R r0) [])) (fun t k => st1 _ k) ?_
  obtain ⟨fs, hr, hrun, hended, hW, hsame⟩ := X1.leave (v := none) (fun _ => rfl) (BodyLoose.notSynchronized Bd)
  refine ⟨_, _, ?_, hrun, hended, _, _, rfl, ?_, ⟨_, rfl⟩, hW, hsame.mono (by decide) (by decide)⟩
  · show Steps p.tables e below (T1.setTop (mkF m 4 (LS_R r0) [])) _
    exact X1.returnOut hx Bd.returns (hb hby d9_4) hr
  · show Qabc Z r0 h0 n0 _ T1.heap _
    rw [e1]
    exact ⟨rfl, N0, rfl⟩
theorem ef_loi (m : MethodId) (r0 : Addr) (q1 : Int64) : entryFrame m #[(.ref r0), (.long q1)] 3 = mkF m 0 #[.val (.ref r0), .val (.long q1), .second] [] := by first | (simp [entryFrame, mkF, argsToLocals, Value.category]; done) | rfl
theorem pn_18 : plainName "java/lang/Long" = true := by first | (simp [plainName, overriddenIn]; done) | decide +kernel
abbrev LS_RJs (a0 : Addr) (a1 : Int64) : Array Slot := #[.val (.ref a0), .val (.long a1), .second]
theorem d18_0 : decode jdk_35_method_26_code 0 = .ok (.aload_n 0, 1) := by decide +kernel
theorem d18_1 : decode jdk_35_method_26_code 1 = .ok (.invokespecial 270, 3) := by decide +kernel
theorem d18_4 : decode jdk_35_method_26_code 4 = .ok (.aload_n 0, 1) := by decide +kernel
theorem d18_5 : decode jdk_35_method_26_code 5 = .ok (.lload_n 1, 1) := by decide +kernel
theorem d18_6 : decode jdk_35_method_26_code 6 = .ok (.putfield 273, 3) := by decide +kernel
theorem d18_9 : decode jdk_35_method_26_code 9 = .ok (.return_, 1) := by decide +kernel
def Qloi (Z : State) (r0 : Addr) (q1 : Int64) (h0 : Heap) (n0 : Nat) (v : Option Value) (h : Heap) (L : List Loc) : Prop := v = none ∧ Fr n0 L ∧ Keep h0 h [r0] ∧ Fld Z h r0 "java/lang/Long" "value" "J" (.long q1)
set_option maxRecDepth 65536 in
set_option maxHeartbeats 40000000 in
theorem rmloi (l : Launch) (Z : State) (a0 : Array Value) (hw : ∀ d ∈ tables_1, d.before a0 Z = true) (ws : List Jvm.Cond) (r0 : Addr) (q1 : Int64) (h0 : Heap) (n0 : Nat) (Z0 : n0 ≤ h0.size) (E0 : Exa Z h0 r0 "java/lang/Long") (F1 : Fld Z h0 r0 "java/lang/Long" "value" "J" (.long (0 : Int64))) (g_r0 : n0 ≤ r0) :
    MetFree l (⟨"java/lang/Long", "<init>", "(J)V"⟩ : MethodName) (head1 (Jvm.Cond.code (⟨"java/lang/Long", "<init>", "(J)V"⟩ : MethodName) jdk_35_method_26_code 3 none :: ws) ({ frames := 2, cells := 0, slots := 0, locals := 25 } : Room)) (fun a U => a = #[(.ref r0), (.long q1)] ∧ Z.Warmed39 U.vm ∧ U.heap = h0) (fun _ _ _ _ _ => True) (fun _ U o U' => ∃ v L, o = .returned v ∧ Qloi Z r0 q1 h0 n0 v U'.heap L ∧ FrameEnd U o U' L ({ frames := 2, cells := 0, slots := 0, locals := 25 } : Room).cells ({ frames := 2, cells := 0, slots := 0, locals := 25 } : Room).slots) := by
  refine MetFree.of_bodySF (plainFor_of_name pn_18) hisR ?_
  intro p e s m args below meth c s₁ Bd hml0 hP hK
  obtain ⟨rfl, hZ, hh⟩ := hP
  have hx := Bd.exec
  have hby := Bd.bytes
  have hml : c.maxLocals = 3 := hml0
  have hown : s.vm.findClass "java/lang/Long" = some m.cls := findClass_of_methodNamed Bd.named
  have hnm := (name_of_methodNamed Bd.named Bd.method).1
  have X0 : Stand p l e ({ frames := 2, cells := 0, slots := 0, locals := 25 } : Room) s m #[(.ref r0), (.long q1)] below meth c s₁ [] 0 0 := Stand.of_body Bd
  have e0 : s₁.heap = h0 := by rw [← hh, Bd.state]; rfl
  have N0 := Fr.nil n0
  refine own_go (B := s₁.setTop (mkF m 0 (LS_RJs r0 q1) [])) (fun t k => castTop (ef_loi m r0 q1) k) ?_
  have K0 : Keep h0 h0 [r0] := Keep.refl _ _
  refine own_go (B := s₁.setTop (mkF m 1 (LS_RJs r0 q1) [(.ref r0)])) (fun t k => ?_) ?_
  · show Steps p.tables e below (s₁.setTop (mkF m 0 (LS_RJs r0 q1) [])) _
    refine XS.aloadN X0.here hx rfl (hb hby d18_0) rfl rfl ?_
    exact k
  obtain ⟨_, _, ⟨T1, L1, k1, n1⟩, -, X1, ⟨Lc1, hQ1, l1, y1, z1⟩, st1⟩ := X0.specialBack hx (y := (⟨"java/lang/Number", "<init>", "()V"⟩ : MethodName)) rfl hown (mvT hZ (hw _ (List.mem_of_getElem? (i := 137) rfl))) (mvT hZ (hw _ (List.mem_of_getElem? (i := 138) rfl))) (mvT hZ (hw _ (List.mem_of_getElem? (i := 142) rfl))) (by decide) (backOf (W := 0) (rmnum l Z a0 hw [] r0 h0 n0 Z0) hZ (hw _ (List.mem_of_getElem? (i := 142) rfl)) (hw _ (List.mem_of_getElem? (i := 141) rfl)) (by decide) (by decide)) (g := (mkF m 1 (LS_RJs r0 q1) [(.ref r0)])) rfl (by rw [hml]; rfl) (Steps.refl _) (a := r0) (argsL := []) (rest := []) (lenOf pd___V rfl) rfl (by show 2 * 0 + _ ≤ _; exact Nat.le_of_eq rfl) (hb hby d18_1) (fun _ _ => ⟨rfl, e0, (by decide : 0 + 0 ≤ _), (by decide : 0 + 0 ≤ _)⟩)
  dsimp only [Pt.U, Pt.locs, Pt.cells, Pt.slots] at X1 l1 y1 z1 st1 hQ1
  subst l1 y1 z1
  obtain ⟨rfl, N1q, e1⟩ := hQ1
  have N1 := Fr.app N0 N1q
  refine own_go (B := T1.setTop (mkF m 4 (LS_RJs r0 q1) [])) (fun t k => st1.trans k) ?_
  refine own_go (B := T1.setTop (mkF m 6 (LS_RJs r0 q1) [(.long q1), (.ref r0)])) (fun t k => ?_) ?_
  · show Steps p.tables e below (T1.setTop (mkF m 4 (LS_RJs r0 q1) [])) _
    refine XS.aloadN X1.here hx rfl (hb hby d18_4) rfl rfl ?_
    show Steps p.tables e below (T1.setTop (mkF m 5 (LS_RJs r0 q1) [(.ref r0)])) _
    refine XS.lloadN X1.here hx rfl (hb hby d18_5) rfl ?_
    exact k
  obtain ⟨T2, h2, X2, e2, W2, st2⟩ := putF X1 hx hZ hown (host := "") (Or.inl (hw _ (List.mem_of_getElem? (i := 144) rfl))) Via.refl e1 F1 E0 (Or.inr ⟨(hw _ (List.mem_of_getElem? (i := 145) rfl)), rfl, hnm⟩) (hw _ (List.mem_of_getElem? (i := 132) rfl)) (ty := .long) (by decide) rfl rfl (g := (mkF m 6 (LS_RJs r0 q1) [(.long q1), (.ref r0)])) rfl rfl (hb hby d18_6)
  have N2 := Fr.snoc X2 N1 g_r0
  have Fw2 := F1.same W2
  refine own_go (B := T2.setTop (mkF m 9 (LS_RJs r0 q1) [])) (fun t k => st2 _ k) ?_
  obtain ⟨fs, hr, hrun, hended, hW, hsame⟩ := X2.leave (v := none) (fun _ => rfl) (BodyLoose.notSynchronized Bd)
  refine ⟨_, _, ?_, hrun, hended, _, _, rfl, ?_, ⟨_, rfl⟩, hW, hsame.mono (by decide) (by decide)⟩
  · show Steps p.tables e below (T2.setTop (mkF m 9 (LS_RJs r0 q1) [])) _
    exact X2.returnOut hx Bd.returns (hb hby d18_9) hr
  · show Qloi Z r0 q1 h0 n0 _ T2.heap _
    rw [e2]
    have K0_v3 := K0.wr W2 (Or.inl (List.mem_of_getElem? (i := 0) rfl))
    exact ⟨rfl, N2, K0_v3, Fw2⟩
theorem ef_lov (m : MethodId) (r0 : Addr) : entryFrame m #[(.ref r0)] 1 = mkF m 0 #[.val (.ref r0)] [] := by first | (simp [entryFrame, mkF, argsToLocals, Value.category]; done) | rfl
theorem pn_31 : plainName "java/lang/Long" = true := by first | (simp [plainName, overriddenIn]; done) | decide +kernel
theorem d31_0 : decode jdk_35_method_31_code 0 = .ok (.aload_n 0, 1) := by decide +kernel
theorem d31_1 : decode jdk_35_method_31_code 1 = .ok (.getfield 273, 3) := by decide +kernel
theorem d31_4 : decode jdk_35_method_31_code 4 = .ok (.lreturn, 1) := by decide +kernel
def Qlov (Z : State) (r0 : Addr) (q1 : Int64) (h0 : Heap) (n0 : Nat) (v : Option Value) (h : Heap) (L : List Loc) : Prop := v = some (.long q1) ∧ Fr n0 L ∧ h = h0
set_option maxRecDepth 65536 in
set_option maxHeartbeats 40000000 in
theorem rmlov (l : Launch) (Z : State) (a0 : Array Value) (hw : ∀ d ∈ tables_1, d.before a0 Z = true) (ws : List Jvm.Cond) (r0 : Addr) (q1 : Int64) (h0 : Heap) (n0 : Nat) (Z0 : n0 ≤ h0.size) (F0 : Fld Z h0 r0 "java/lang/Long" "value" "J" (.long q1)) :
    MetFree l (⟨"java/lang/Long", "longValue", "()J"⟩ : MethodName) (head1 (Jvm.Cond.code (⟨"java/lang/Long", "longValue", "()J"⟩ : MethodName) jdk_35_method_31_code 1 (some .long) :: ws) ({ frames := 0, cells := 0, slots := 0, locals := 0 } : Room)) (fun a U => a = #[(.ref r0)] ∧ Z.Warmed39 U.vm ∧ U.heap = h0) (fun _ _ _ _ _ => True) (fun _ U o U' => ∃ v L, o = .returned v ∧ Qlov Z r0 q1 h0 n0 v U'.heap L ∧ FrameEnd U o U' L ({ frames := 0, cells := 0, slots := 0, locals := 0 } : Room).cells ({ frames := 0, cells := 0, slots := 0, locals := 0 } : Room).slots) := by
  refine MetFree.of_bodySF (plainFor_of_name pn_31) hisR ?_
  intro p e s m args below meth c s₁ Bd hml0 hP hK
  obtain ⟨rfl, hZ, hh⟩ := hP
  have hx := Bd.exec
  have hby := Bd.bytes
  have hml : c.maxLocals = 1 := hml0
  have hown : s.vm.findClass "java/lang/Long" = some m.cls := findClass_of_methodNamed Bd.named
  have hnm := (name_of_methodNamed Bd.named Bd.method).1
  have X0 : Stand p l e ({ frames := 0, cells := 0, slots := 0, locals := 0 } : Room) s m #[(.ref r0)] below meth c s₁ [] 0 0 := Stand.of_body Bd
  have e0 : s₁.heap = h0 := by rw [← hh, Bd.state]; rfl
  have N0 := Fr.nil n0
  refine own_go (B := s₁.setTop (mkF m 0 (LS_R r0) [])) (fun t k => castTop (ef_lov m r0) k) ?_
  refine own_go (B := s₁.setTop (mkF m 1 (LS_R r0) [(.ref r0)])) (fun t k => ?_) ?_
  · show Steps p.tables e below (s₁.setTop (mkF m 0 (LS_R r0) [])) _
    refine XS.aloadN X0.here hx rfl (hb hby d31_0) rfl rfl ?_
    exact k
  obtain ⟨T1, X1, e1, st1⟩ := getF X0 hx hZ hown (host := "") (Or.inl (hw _ (List.mem_of_getElem? (i := 144) rfl))) Via.refl e0 F0 (g := (mkF m 1 (LS_R r0) [(.ref r0)])) rfl rfl (hb hby d31_1)
  refine own_go (B := T1.setTop (mkF m 4 (LS_R r0) [(.long q1)])) (fun t k => st1 _ k) ?_
  obtain ⟨fs, hr, hrun, hended, hW, hsame⟩ := X1.leave (v := some (.long q1)) (fun h => by rw [Bd.returns] at h; cases h) (BodyLoose.notSynchronized Bd)
  refine ⟨_, _, ?_, hrun, hended, _, _, rfl, ?_, ⟨_, rfl⟩, hW, hsame.mono (by decide) (by decide)⟩
  · show Steps p.tables e below (T1.setTop (mkF m 4 (LS_R r0) [(.long q1)])) _
    exact retOut X1 hx Bd.returns rfl (Or.inr (Or.inl ⟨rfl, rfl, _, rfl⟩)) (hb hby d31_4) hr
  · show Qlov Z r0 q1 h0 n0 _ T1.heap _
    rw [e1]
    exact ⟨rfl, N0, rfl⟩
theorem own_bxin {q : Int64} (h1 : ¬ (q < (-128 : Int64))) (h2 : ¬ ((127 : Int64) < q)) : (¬ (((q.toInt32) + (128 : Int32)) < 0) ∧ ((q.toInt32) + (128 : Int32)) < (256 : Int32)) ∧ ((((q.toInt32) + (128 : Int32)) - (128 : Int32)).toInt64) = q := by
  rw [Int64.lt_iff_toInt_lt] at h1 h2
  have a1 : (-128 : Int64).toInt = -128 := by decide
  have a2 : (127 : Int64).toInt = 127 := rfl
  have a3 : (128 : Int32).toInt = 128 := rfl
  have a4 : (0 : Int32).toInt = 0 := rfl
  have a5 : (256 : Int32).toInt = 256 := rfl
  rw [a1] at h1
  rw [a2] at h2
  have e1 := Jvm.Kit.i32_of_i64 (x := q) (by omega) (by omega)
  have e2 := Jvm.Kit.i32_add (p := q.toInt32) (q := (128 : Int32)) (by rw [e1, a3]; omega) (by rw [e1, a3]; omega)
  have e3 := Jvm.Kit.i32_sub (p := (q.toInt32) + (128 : Int32)) (q := (128 : Int32)) (by rw [e2, e1, a3]; omega) (by rw [e2, e1, a3]; omega)
  refine ⟨⟨?_, ?_⟩, ?_⟩
  · rw [Int32.lt_iff_toInt_lt, e2, e1, a3, a4]; omega
  · rw [Int32.lt_iff_toInt_lt, e2, e1, a3, a5]; omega
  · rw [← Int64.toInt_inj, Int32.toInt_toInt64, e3, e2, e1, a3]; omega
theorem ef_vof (m : MethodId) (q0 : Int64) : entryFrame m #[(.long q0)] 3 = mkF m 0 #[.val (.long q0), .second, .unset] [] := by first | (simp [entryFrame, mkF, argsToLocals, Value.category]; done) | rfl
theorem pn_17 : plainName "java/lang/Long" = true := by first | (simp [plainName, overriddenIn]; done) | decide +kernel
abbrev LS_Jsu (a0 : Int64) : Array Slot := #[.val (.long a0), .second, .unset]
theorem d17_0 : decode jdk_35_method_24_code 0 = .ok (.sipush 128, 3) := by decide +kernel
theorem d17_3 : decode jdk_35_method_24_code 3 = .ok (.istore_n 2, 1) := by decide +kernel
theorem d17_4 : decode jdk_35_method_24_code 4 = .ok (.lload_n 0, 1) := by decide +kernel
theorem d17_5 : decode jdk_35_method_24_code 5 = .ok (.ldc2_w 230, 3) := by decide +kernel
theorem d17_8 : decode jdk_35_method_24_code 8 = .ok (.lcmp, 1) := by decide +kernel
theorem d17_9 : decode jdk_35_method_24_code 9 = .ok (.ifCond .lt 22, 3) := by decide +kernel
theorem d17_31 : decode jdk_35_method_24_code 31 = .ok (.new 1, 3) := by decide +kernel
theorem d17_34 : decode jdk_35_method_24_code 34 = .ok (.dup, 1) := by decide +kernel
theorem d17_35 : decode jdk_35_method_24_code 35 = .ok (.lload_n 0, 1) := by decide +kernel
theorem d17_36 : decode jdk_35_method_24_code 36 = .ok (.invokespecial 240, 3) := by decide +kernel
theorem pd__J_V : parseMethodDescriptor "(J)V" = some ⟨[.long], none⟩ := by decide +kernel
theorem d17_39 : decode jdk_35_method_24_code 39 = .ok (.areturn, 1) := by decide +kernel
theorem d17_12 : decode jdk_35_method_24_code 12 = .ok (.lload_n 0, 1) := by decide +kernel
theorem d17_13 : decode jdk_35_method_24_code 13 = .ok (.ldc2_w 232, 3) := by decide +kernel
theorem d17_16 : decode jdk_35_method_24_code 16 = .ok (.lcmp, 1) := by decide +kernel
theorem d17_17 : decode jdk_35_method_24_code 17 = .ok (.ifCond .gt 14, 3) := by decide +kernel
theorem d17_20 : decode jdk_35_method_24_code 20 = .ok (.getstatic 234, 3) := by decide +kernel
theorem d17_23 : decode jdk_35_method_24_code 23 = .ok (.lload_n 0, 1) := by decide +kernel
theorem d17_24 : decode jdk_35_method_24_code 24 = .ok (.l2i, 1) := by decide +kernel
theorem d17_25 : decode jdk_35_method_24_code 25 = .ok (.sipush 128, 3) := by decide +kernel
theorem d17_28 : decode jdk_35_method_24_code 28 = .ok (.iadd, 1) := by decide +kernel
theorem d17_29 : decode jdk_35_method_24_code 29 = .ok (.aaload, 1) := by decide +kernel
theorem d17_30 : decode jdk_35_method_24_code 30 = .ok (.areturn, 1) := by decide +kernel
def Qvof (Z : State) (q0 : Int64) (wc : Addr) (cc : Cell) (h0 : Heap) (n0 : Nat) (v : Option Value) (h : Heap) (L : List Loc) : Prop := ∃ r : Addr, v = some (.ref r) ∧ Fr n0 L ∧ Keep h0 h [] ∧ Exa Z h r "java/lang/Long" ∧ Fld Z h r "java/lang/Long" "value" "J" (.long q0)
set_option maxRecDepth 65536 in
set_option maxHeartbeats 40000000 in
theorem rmvof (l : Launch) (Z : State) (a0 : Array Value) (hw : ∀ d ∈ tables_1, d.before a0 Z = true) (ws : List Jvm.Cond) (q0 : Int64) (wc : Addr) (cc : Cell) (h0 : Heap) (n0 : Nat) (Z0 : n0 ≤ h0.size) (OL : Old Z n0 h0) (BX : Bxs Z wc cc "java/lang/Long" "J" (256 : Int32) (fun j : Int32 => Value.long ((j - (128 : Int32)).toInt64))) (S_cache : Sta Z h0 "java/lang/Long$LongCache" "cache" "[Ljava/lang/Long;" (.ref wc)) :
    MetFree l (⟨"java/lang/Long", "valueOf", "(J)Ljava/lang/Long;"⟩ : MethodName) (head1 (Jvm.Cond.code (⟨"java/lang/Long", "valueOf", "(J)Ljava/lang/Long;"⟩ : MethodName) jdk_35_method_24_code 3 (some (.object "java/lang/Long")) :: ws) ({ frames := 3, cells := 1, slots := 1, locals := 60 } : Room)) (fun a U => a = #[(.long q0)] ∧ Z.Warmed39 U.vm ∧ U.heap = h0) (fun _ _ _ _ _ => True) (fun _ U o U' => ∃ v L, o = .returned v ∧ Qvof Z q0 wc cc h0 n0 v U'.heap L ∧ FrameEnd U o U' L ({ frames := 3, cells := 1, slots := 1, locals := 60 } : Room).cells ({ frames := 3, cells := 1, slots := 1, locals := 60 } : Room).slots) := by
  refine MetFree.of_bodySF (plainFor_of_name pn_17) hisR ?_
  intro p e s m args below meth c s₁ Bd hml0 hP hK
  obtain ⟨rfl, hZ, hh⟩ := hP
  have hx := Bd.exec
  have hby := Bd.bytes
  have hml : c.maxLocals = 3 := hml0
  have hown : s.vm.findClass "java/lang/Long" = some m.cls := findClass_of_methodNamed Bd.named
  have hnm := (name_of_methodNamed Bd.named Bd.method).1
  have X0 : Stand p l e ({ frames := 3, cells := 1, slots := 1, locals := 60 } : Room) s m #[(.long q0)] below meth c s₁ [] 0 0 := Stand.of_body Bd
  have e0 : s₁.heap = h0 := by rw [← hh, Bd.state]; rfl
  have N0 := Fr.nil n0
  refine own_go (B := s₁.setTop (mkF m 0 (LS_Jsu q0) [])) (fun t k => castTop (ef_vof m q0) k) ?_
  have K0 : Keep h0 h0 [] := Keep.refl _ _
  refine own_go (B := s₁.setTop (mkF m 9 (LS_JsI q0 (128 : Int32)) [(.int (lcmpW q0 (-128 : Int64)))])) (fun t k => ?_) ?_
  · show Steps p.tables e below (s₁.setTop (mkF m 0 (LS_Jsu q0) [])) _
    refine XS.sipush X0.here hx rfl (hb hby d17_0) ?_
    show Steps p.tables e below (s₁.setTop (mkF m 3 (LS_Jsu q0) [(.int (128 : Int32))])) _
    refine XS.istoreN X0.here hx rfl (hb hby d17_3) rfl (l' := (LS_JsI q0 (128 : Int32))) rfl ?_
    show Steps p.tables e below (s₁.setTop (mkF m 4 (LS_JsI q0 (128 : Int32)) [])) _
    refine XS.lloadN X0.here hx rfl (hb hby d17_4) rfl ?_
    show Steps p.tables e below (s₁.setTop (mkF m 5 (LS_JsI q0 (128 : Int32)) [(.long q0)])) _
    refine X0.ldc2Long hx hown (mvT hZ (hw _ (List.mem_of_getElem? (i := 130) rfl))) (g := (mkF m 5 (LS_JsI q0 (128 : Int32)) [(.long q0)])) rfl (hb hby d17_5) _ ?_
    show Steps p.tables e below (s₁.setTop (mkF m 8 (LS_JsI q0 (128 : Int32)) [(.long (-128 : Int64)), (.long q0)])) _
    refine XS.lcmp X0.here hx rfl (hb hby d17_8) rfl ?_
    exact k
  by_cases hc9_1 : q0 < (-128 : Int64)
  · refine own_go (B := s₁.setTop (mkF m 31 (LS_JsI q0 (128 : Int32)) [])) (fun t k => ?_) ?_
    · show Steps p.tables e below (s₁.setTop (mkF m 9 (LS_JsI q0 (128 : Int32)) [(.int (lcmpW q0 (-128 : Int64)))])) _
      refine XS.ifYes X0.here hx rfl (pc0 := 9) (pc' := 31) rfl (hb hby d17_9) rfl ((if0 _ _).trans (tlt ((lw_lt q0 (-128 : Int64)).mpr hc9_1)).1) (by decide) (by decide) ?_
      exact k
    obtain ⟨T2, h2, X2, e2, E2, A2, D2, -, st2⟩ := newO X0 hx hZ hown (hw _ (List.mem_of_getElem? (i := 131) rfl)) (hw _ (List.mem_of_getElem? (i := 132) rfl)) (hw _ (List.mem_of_getElem? (i := 128) rfl)) e0 (g := (mkF m 31 (LS_JsI q0 (128 : Int32)) [])) rfl (hb hby d17_31) (by decide) (by decide)
    obtain ⟨b2, g2⟩ : ∃ z, z = h0.size := ⟨_, rfl⟩
    rw [← g2] at A2 D2 st2
    have g_b2 : n0 ≤ b2 := Nat.le_trans Z0 (Nat.le_of_eq g2.symm)
    have sz_b2 : h0.size ≤ b2 := Nat.le_trans K0.1 (Nat.le_of_eq g2.symm)
    have F2_value : Fld Z h2 b2 "java/lang/Long" "value" "J" (.long (0 : Int64)) := D2 (Or.inr (hw _ (List.mem_of_getElem? (i := 145) rfl))) (ty := .long) (by decide)
    refine own_go (B := T2.setTop (mkF m 34 (LS_JsI q0 (128 : Int32)) [(.ref b2)])) (fun t k => st2 _ k) ?_
    refine own_go (B := T2.setTop (mkF m 36 (LS_JsI q0 (128 : Int32)) [(.long q0), (.ref b2), (.ref b2)])) (fun t k => ?_) ?_
    · show Steps p.tables e below (T2.setTop (mkF m 34 (LS_JsI q0 (128 : Int32)) [(.ref b2)])) _
      refine XS.dup X2.here hx rfl (hb hby d17_34) rfl rfl ?_
      show Steps p.tables e below (T2.setTop (mkF m 35 (LS_JsI q0 (128 : Int32)) [(.ref b2), (.ref b2)])) _
      refine XS.lloadN X2.here hx rfl (hb hby d17_35) rfl ?_
      exact k
    have Z0_v3 := Nat.le_trans Z0 E2.1
    obtain ⟨_, _, ⟨T4, L4, k4, n4⟩, -, X4, ⟨Lc4, hQ4, l4, y4, z4⟩, st4⟩ := X2.specialBack hx (y := (⟨"java/lang/Long", "<init>", "(J)V"⟩ : MethodName)) rfl hown (mvT hZ (hw _ (List.mem_of_getElem? (i := 133) rfl))) (mvT hZ (hw _ (List.mem_of_getElem? (i := 134) rfl))) (mvT hZ (hw _ (List.mem_of_getElem? (i := 136) rfl))) (by decide) (backOf (W := 1) (rmloi l Z a0 hw [] b2 q0 h2 n0 Z0_v3 A2 F2_value g_b2) hZ (hw _ (List.mem_of_getElem? (i := 136) rfl)) (hw _ (List.mem_of_getElem? (i := 128) rfl)) (by decide) (by decide)) (g := (mkF m 36 (LS_JsI q0 (128 : Int32)) [(.long q0), (.ref b2), (.ref b2)])) rfl (by rw [hml]; rfl) (Steps.refl _) (a := b2) (argsL := [(.long q0)]) (rest := [(.ref b2)]) (lenOf pd__J_V rfl) rfl (by show 2 * 0 + _ ≤ _; exact Nat.le_of_eq rfl) (hb hby d17_36) (fun _ _ => ⟨rfl, e2, (by decide : 1 + 0 ≤ _), (by decide : 1 + 0 ≤ _)⟩)
    dsimp only [Pt.U, Pt.locs, Pt.cells, Pt.slots] at X4 l4 y4 z4 st4 hQ4
    subst l4 y4 z4
    obtain ⟨rfl, N4q, K4, Fv4⟩ := hQ4
    have N4 := Fr.app N0 N4q
    refine own_go (B := T4.setTop (mkF m 39 (LS_JsI q0 (128 : Int32)) [(.ref b2)])) (fun t k => st4.trans k) ?_
    obtain ⟨fs, hr, hrun, hended, hW, hsame⟩ := X4.leave (v := some (.ref b2)) (fun h => by rw [Bd.returns] at h; cases h) (BodyLoose.notSynchronized Bd)
    refine ⟨_, _, ?_, hrun, hended, _, _, rfl, ?_, ⟨_, rfl⟩, hW, hsame.mono (by decide) (by decide)⟩
    · show Steps p.tables e below (T4.setTop (mkF m 39 (LS_JsI q0 (128 : Int32)) [(.ref b2)])) _
      exact retOut X4 hx Bd.returns rfl (Or.inr (Or.inr (Or.inr (Or.inr ⟨rfl, rfl, rfl⟩)))) (hb hby d17_39) hr
    · show Qvof Z q0 wc cc h0 n0 _ T4.heap _
      have K0_v5 := K0.ext E2
      have K0_v6 := K0_v5.trans K4 (allS (Or.inr sz_b2) all0)
      have A2_v7 := A2.keep K4
      exact ⟨b2, rfl, N4, K0_v6, A2_v7, Fv4⟩
  · refine own_go (B := s₁.setTop (mkF m 17 (LS_JsI q0 (128 : Int32)) [(.int (lcmpW q0 (127 : Int64)))])) (fun t k => ?_) ?_
    · show Steps p.tables e below (s₁.setTop (mkF m 9 (LS_JsI q0 (128 : Int32)) [(.int (lcmpW q0 (-128 : Int64)))])) _
      refine XS.ifNo X0.here hx rfl (hb hby d17_9) rfl ((if0 _ _).trans (flt (fun q => hc9_1 ((lw_lt q0 (-128 : Int64)).mp q))).1) ?_
      show Steps p.tables e below (s₁.setTop (mkF m 12 (LS_JsI q0 (128 : Int32)) [])) _
      refine XS.lloadN X0.here hx rfl (hb hby d17_12) rfl ?_
      show Steps p.tables e below (s₁.setTop (mkF m 13 (LS_JsI q0 (128 : Int32)) [(.long q0)])) _
      refine X0.ldc2Long hx hown (mvT hZ (hw _ (List.mem_of_getElem? (i := 241) rfl))) (g := (mkF m 13 (LS_JsI q0 (128 : Int32)) [(.long q0)])) rfl (hb hby d17_13) _ ?_
      show Steps p.tables e below (s₁.setTop (mkF m 16 (LS_JsI q0 (128 : Int32)) [(.long (127 : Int64)), (.long q0)])) _
      refine XS.lcmp X0.here hx rfl (hb hby d17_16) rfl ?_
      exact k
    by_cases hc17_8 : (127 : Int64) < q0
    · refine own_go (B := s₁.setTop (mkF m 31 (LS_JsI q0 (128 : Int32)) [])) (fun t k => ?_) ?_
      · show Steps p.tables e below (s₁.setTop (mkF m 17 (LS_JsI q0 (128 : Int32)) [(.int (lcmpW q0 (127 : Int64)))])) _
        refine XS.ifYes X0.here hx rfl (pc0 := 17) (pc' := 31) rfl (hb hby d17_17) rfl ((if0 _ _).trans (tlt ((lw_gt q0 (127 : Int64)).mpr hc17_8)).2.2.1) (by decide) (by decide) ?_
        exact k
      obtain ⟨T9, h9, X9, e9, E9, A9, D9, -, st9⟩ := newO X0 hx hZ hown (hw _ (List.mem_of_getElem? (i := 131) rfl)) (hw _ (List.mem_of_getElem? (i := 132) rfl)) (hw _ (List.mem_of_getElem? (i := 128) rfl)) e0 (g := (mkF m 31 (LS_JsI q0 (128 : Int32)) [])) rfl (hb hby d17_31) (by decide) (by decide)
      obtain ⟨b9, g9⟩ : ∃ z, z = h0.size := ⟨_, rfl⟩
      rw [← g9] at A9 D9 st9
      have g_b9 : n0 ≤ b9 := Nat.le_trans Z0 (Nat.le_of_eq g9.symm)
      have sz_b9 : h0.size ≤ b9 := Nat.le_trans K0.1 (Nat.le_of_eq g9.symm)
      have F9_value : Fld Z h9 b9 "java/lang/Long" "value" "J" (.long (0 : Int64)) := D9 (Or.inr (hw _ (List.mem_of_getElem? (i := 145) rfl))) (ty := .long) (by decide)
      refine own_go (B := T9.setTop (mkF m 34 (LS_JsI q0 (128 : Int32)) [(.ref b9)])) (fun t k => st9 _ k) ?_
      refine own_go (B := T9.setTop (mkF m 36 (LS_JsI q0 (128 : Int32)) [(.long q0), (.ref b9), (.ref b9)])) (fun t k => ?_) ?_
      · show Steps p.tables e below (T9.setTop (mkF m 34 (LS_JsI q0 (128 : Int32)) [(.ref b9)])) _
        refine XS.dup X9.here hx rfl (hb hby d17_34) rfl rfl ?_
        show Steps p.tables e below (T9.setTop (mkF m 35 (LS_JsI q0 (128 : Int32)) [(.ref b9), (.ref b9)])) _
        refine XS.lloadN X9.here hx rfl (hb hby d17_35) rfl ?_
        exact k
      have Z0_v10 := Nat.le_trans Z0 E9.1
      obtain ⟨_, _, ⟨T11, L11, k11, n11⟩, -, X11, ⟨Lc11, hQ11, l11, y11, z11⟩, st11⟩ := X9.specialBack hx (y := (⟨"java/lang/Long", "<init>", "(J)V"⟩ : MethodName)) rfl hown (mvT hZ (hw _ (List.mem_of_getElem? (i := 133) rfl))) (mvT hZ (hw _ (List.mem_of_getElem? (i := 134) rfl))) (mvT hZ (hw _ (List.mem_of_getElem? (i := 136) rfl))) (by decide) (backOf (W := 1) (rmloi l Z a0 hw [] b9 q0 h9 n0 Z0_v10 A9 F9_value g_b9) hZ (hw _ (List.mem_of_getElem? (i := 136) rfl)) (hw _ (List.mem_of_getElem? (i := 128) rfl)) (by decide) (by decide)) (g := (mkF m 36 (LS_JsI q0 (128 : Int32)) [(.long q0), (.ref b9), (.ref b9)])) rfl (by rw [hml]; rfl) (Steps.refl _) (a := b9) (argsL := [(.long q0)]) (rest := [(.ref b9)]) (lenOf pd__J_V rfl) rfl (by show 2 * 0 + _ ≤ _; exact Nat.le_of_eq rfl) (hb hby d17_36) (fun _ _ => ⟨rfl, e9, (by decide : 1 + 0 ≤ _), (by decide : 1 + 0 ≤ _)⟩)
      dsimp only [Pt.U, Pt.locs, Pt.cells, Pt.slots] at X11 l11 y11 z11 st11 hQ11
      subst l11 y11 z11
      obtain ⟨rfl, N11q, K11, Fv11⟩ := hQ11
      have N11 := Fr.app N0 N11q
      refine own_go (B := T11.setTop (mkF m 39 (LS_JsI q0 (128 : Int32)) [(.ref b9)])) (fun t k => st11.trans k) ?_
      obtain ⟨fs, hr, hrun, hended, hW, hsame⟩ := X11.leave (v := some (.ref b9)) (fun h => by rw [Bd.returns] at h; cases h) (BodyLoose.notSynchronized Bd)
      refine ⟨_, _, ?_, hrun, hended, _, _, rfl, ?_, ⟨_, rfl⟩, hW, hsame.mono (by decide) (by decide)⟩
      · show Steps p.tables e below (T11.setTop (mkF m 39 (LS_JsI q0 (128 : Int32)) [(.ref b9)])) _
        exact retOut X11 hx Bd.returns rfl (Or.inr (Or.inr (Or.inr (Or.inr ⟨rfl, rfl, rfl⟩)))) (hb hby d17_39) hr
      · show Qvof Z q0 wc cc h0 n0 _ T11.heap _
        have K0_v12 := K0.ext E9
        have K0_v13 := K0_v12.trans K11 (allS (Or.inr sz_b9) all0)
        have A9_v14 := A9.keep K11
        exact ⟨b9, rfl, N11, K0_v13, A9_v14, Fv11⟩
    · refine own_go (B := s₁.setTop (mkF m 20 (LS_JsI q0 (128 : Int32)) [])) (fun t k => ?_) ?_
      · show Steps p.tables e below (s₁.setTop (mkF m 17 (LS_JsI q0 (128 : Int32)) [(.int (lcmpW q0 (127 : Int64)))])) _
        refine XS.ifNo X0.here hx rfl (hb hby d17_17) rfl ((if0 _ _).trans (flt (fun q => hc17_8 ((lw_gt q0 (127 : Int64)).mp q))).2.2.1) ?_
        exact k
      obtain ⟨T15, X15, e15, st15⟩ := getS2 X0 hx hZ hown (host := "") (Or.inl (hw _ (List.mem_of_getElem? (i := 242) rfl))) Via.refl e0 S_cache (g := (mkF m 20 (LS_JsI q0 (128 : Int32)) [])) rfl (hb hby d17_20)
      refine own_go (B := T15.setTop (mkF m 23 (LS_JsI q0 (128 : Int32)) [(.ref wc)])) (fun t k => st15 _ k) ?_
      have bi := own_bxin hc9_1 hc17_8
      have hin : ¬ (((q0.toInt32) + (128 : Int32)) < 0 ∨ cc.slots.size ≤ (((q0.toInt32) + (128 : Int32))).toNatClampNeg) := inb_of BX.2.1 bi.1
      obtain ⟨bx, hat, Eb, Fb⟩ := BX.2.2.2 ((q0.toInt32) + (128 : Int32)) hin
      have Ab := (BX.ext OL.2).1
      have Eb2 := Eb.ext OL.2
      have Fb2 := Fb.ext OL.2
      have Fb3 : Fld Z h0 bx "java/lang/Long" "value" "J" (.long q0) := by have q : Fld Z h0 bx "java/lang/Long" "value" "J" (.long ((((q0.toInt32) + (128 : Int32)) - (128 : Int32)).toInt64)) := Fb2; rw [bi.2] at q; exact q
      refine own_go (B := T15.setTop (mkF m 30 (LS_JsI q0 (128 : Int32)) [(.ref bx)])) (fun t k => ?_) ?_
      · show Steps p.tables e below (T15.setTop (mkF m 23 (LS_JsI q0 (128 : Int32)) [(.ref wc)])) _
        refine XS.lloadN X15.here hx rfl (hb hby d17_23) rfl ?_
        show Steps p.tables e below (T15.setTop (mkF m 24 (LS_JsI q0 (128 : Int32)) [(.long q0), (.ref wc)])) _
        refine XS.l2i X15.here hx rfl (hb hby d17_24) rfl ?_
        show Steps p.tables e below (T15.setTop (mkF m 25 (LS_JsI q0 (128 : Int32)) [(.int (q0.toInt32)), (.ref wc)])) _
        refine XS.sipush X15.here hx rfl (hb hby d17_25) ?_
        show Steps p.tables e below (T15.setTop (mkF m 28 (LS_JsI q0 (128 : Int32)) [(.int (128 : Int32)), (.int (q0.toInt32)), (.ref wc)])) _
        refine XS.iadd X15.here hx rfl (hb hby d17_28) rfl ?_
        show Steps p.tables e below (T15.setTop (mkF m 29 (LS_JsI q0 (128 : Int32)) [(.int ((q0.toInt32) + (128 : Int32))), (.ref wc)])) _
        refine X15.aaload hx (j := ((q0.toInt32) + (128 : Int32))) (v := (.ref bx)) (by rw [e15]; exact Ab.1) (State.isArrayOf_alike hZ.alike Ab.2.1) rfl Ab.2.2 hin hat (g := (mkF m 29 (LS_JsI q0 (128 : Int32)) [(.int ((q0.toInt32) + (128 : Int32))), (.ref wc)])) rfl rfl (hb hby d17_29) _ ?_
        exact k
      obtain ⟨fs, hr, hrun, hended, hW, hsame⟩ := X15.leave (v := some (.ref bx)) (fun h => by rw [Bd.returns] at h; cases h) (BodyLoose.notSynchronized Bd)
      refine ⟨_, _, ?_, hrun, hended, _, _, rfl, ?_, ⟨_, rfl⟩, hW, hsame.mono (by decide) (by decide)⟩
      · show Steps p.tables e below (T15.setTop (mkF m 30 (LS_JsI q0 (128 : Int32)) [(.ref bx)])) _
        exact retOut X15 hx Bd.returns rfl (Or.inr (Or.inr (Or.inr (Or.inr ⟨rfl, rfl, rfl⟩)))) (hb hby d17_30) hr
      · show Qvof Z q0 wc cc h0 n0 _ T15.heap _
        rw [e15]
        exact ⟨bx, rfl, N0, K0, Eb2, Fb3⟩
theorem ef_sub (m : MethodId) (p0 : Int32) (p1 : Int32) (p2 : Int32) : entryFrame m #[(.int p0), (.int p1), (.int p2)] 3 = mkF m 0 #[.val (.int p0), .val (.int p1), .val (.int p2)] [] := by first | (simp [entryFrame, mkF, argsToLocals, Value.category]; done) | rfl
theorem pn_15 : plainName "java/util/ArrayDeque" = true := by first | (simp [plainName, overriddenIn]; done) | decide +kernel
abbrev LS_III (a0 : Int32) (a1 : Int32) (a2 : Int32) : Array Slot := #[.val (.int a0), .val (.int a1), .val (.int a2)]
theorem d15_0 : decode jdk_21_method_9_code 0 = .ok (.iload_n 0, 1) := by decide +kernel
theorem d15_1 : decode jdk_21_method_9_code 1 = .ok (.iload_n 1, 1) := by decide +kernel
theorem d15_2 : decode jdk_21_method_9_code 2 = .ok (.isub, 1) := by decide +kernel
theorem d15_3 : decode jdk_21_method_9_code 3 = .ok (.dup, 1) := by decide +kernel
theorem d15_4 : decode jdk_21_method_9_code 4 = .ok (.istore_n 0, 1) := by decide +kernel
theorem d15_5 : decode jdk_21_method_9_code 5 = .ok (.ifCond .ge 7, 3) := by decide +kernel
theorem d15_8 : decode jdk_21_method_9_code 8 = .ok (.iload_n 0, 1) := by decide +kernel
theorem d15_9 : decode jdk_21_method_9_code 9 = .ok (.iload_n 2, 1) := by decide +kernel
theorem d15_10 : decode jdk_21_method_9_code 10 = .ok (.iadd, 1) := by decide +kernel
theorem d15_11 : decode jdk_21_method_9_code 11 = .ok (.istore_n 0, 1) := by decide +kernel
theorem d15_12 : decode jdk_21_method_9_code 12 = .ok (.iload_n 0, 1) := by decide +kernel
theorem d15_13 : decode jdk_21_method_9_code 13 = .ok (.ireturn, 1) := by decide +kernel
def Qsub (Z : State) (p0 : Int32) (p1 : Int32) (p2 : Int32) (h0 : Heap) (n0 : Nat) (v : Option Value) (h : Heap) (L : List Loc) : Prop := v = some (.int (if (p0 - p1) < (0 : Int32) then ((p0 - p1) + p2) else (p0 - p1))) ∧ Fr n0 L ∧ h = h0
set_option maxRecDepth 65536 in
set_option maxHeartbeats 40000000 in
theorem rmsub (l : Launch) (Z : State) (a0 : Array Value) (hw : ∀ d ∈ tables_1, d.before a0 Z = true) (ws : List Jvm.Cond) (p0 : Int32) (p1 : Int32) (p2 : Int32) (h0 : Heap) (n0 : Nat) (Z0 : n0 ≤ h0.size) :
    MetFree l (⟨"java/util/ArrayDeque", "sub", "(III)I"⟩ : MethodName) (head1 (Jvm.Cond.code (⟨"java/util/ArrayDeque", "sub", "(III)I"⟩ : MethodName) jdk_21_method_9_code 3 (some .int) :: ws) ({ frames := 0, cells := 0, slots := 0, locals := 0 } : Room)) (fun a U => a = #[(.int p0), (.int p1), (.int p2)] ∧ Z.Warmed39 U.vm ∧ U.heap = h0) (fun _ _ _ _ _ => True) (fun _ U o U' => ∃ v L, o = .returned v ∧ Qsub Z p0 p1 p2 h0 n0 v U'.heap L ∧ FrameEnd U o U' L ({ frames := 0, cells := 0, slots := 0, locals := 0 } : Room).cells ({ frames := 0, cells := 0, slots := 0, locals := 0 } : Room).slots) := by
  refine MetFree.of_bodySF (plainFor_of_name pn_15) hisR ?_
  intro p e s m args below meth c s₁ Bd hml0 hP hK
  obtain ⟨rfl, hZ, hh⟩ := hP
  have hx := Bd.exec
  have hby := Bd.bytes
  have hml : c.maxLocals = 3 := hml0
  have hown : s.vm.findClass "java/util/ArrayDeque" = some m.cls := findClass_of_methodNamed Bd.named
  have hnm := (name_of_methodNamed Bd.named Bd.method).1
  have X0 : Stand p l e ({ frames := 0, cells := 0, slots := 0, locals := 0 } : Room) s m #[(.int p0), (.int p1), (.int p2)] below meth c s₁ [] 0 0 := Stand.of_body Bd
  have e0 : s₁.heap = h0 := by rw [← hh, Bd.state]; rfl
  have N0 := Fr.nil n0
  refine own_go (B := s₁.setTop (mkF m 0 (LS_III p0 p1 p2) [])) (fun t k => castTop (ef_sub m p0 p1 p2) k) ?_
  refine own_go (B := s₁.setTop (mkF m 5 (LS_III (p0 - p1) p1 p2) [(.int (p0 - p1))])) (fun t k => ?_) ?_
  · show Steps p.tables e below (s₁.setTop (mkF m 0 (LS_III p0 p1 p2) [])) _
    refine XS.iloadN X0.here hx rfl (hb hby d15_0) rfl ?_
    show Steps p.tables e below (s₁.setTop (mkF m 1 (LS_III p0 p1 p2) [(.int p0)])) _
    refine XS.iloadN X0.here hx rfl (hb hby d15_1) rfl ?_
    show Steps p.tables e below (s₁.setTop (mkF m 2 (LS_III p0 p1 p2) [(.int p1), (.int p0)])) _
    refine XS.isub X0.here hx rfl (hb hby d15_2) rfl ?_
    show Steps p.tables e below (s₁.setTop (mkF m 3 (LS_III p0 p1 p2) [(.int (p0 - p1))])) _
    refine XS.dup X0.here hx rfl (hb hby d15_3) rfl rfl ?_
    show Steps p.tables e below (s₁.setTop (mkF m 4 (LS_III p0 p1 p2) [(.int (p0 - p1)), (.int (p0 - p1))])) _
    refine XS.istoreN X0.here hx rfl (hb hby d15_4) rfl (l' := (LS_III (p0 - p1) p1 p2)) rfl ?_
    exact k
  by_cases hc5_1 : (p0 - p1) < (0 : Int32)
  · refine own_go (B := s₁.setTop (mkF m 13 (LS_III ((p0 - p1) + p2) p1 p2) [(.int ((p0 - p1) + p2))])) (fun t k => ?_) ?_
    · show Steps p.tables e below (s₁.setTop (mkF m 5 (LS_III (p0 - p1) p1 p2) [(.int (p0 - p1))])) _
      refine XS.ifNo X0.here hx rfl (hb hby d15_5) rfl ((if0 _ _).trans (tlt hc5_1).2.1) ?_
      show Steps p.tables e below (s₁.setTop (mkF m 8 (LS_III (p0 - p1) p1 p2) [])) _
      refine XS.iloadN X0.here hx rfl (hb hby d15_8) rfl ?_
      show Steps p.tables e below (s₁.setTop (mkF m 9 (LS_III (p0 - p1) p1 p2) [(.int (p0 - p1))])) _
      refine XS.iloadN X0.here hx rfl (hb hby d15_9) rfl ?_
      show Steps p.tables e below (s₁.setTop (mkF m 10 (LS_III (p0 - p1) p1 p2) [(.int p2), (.int (p0 - p1))])) _
      refine XS.iadd X0.here hx rfl (hb hby d15_10) rfl ?_
      show Steps p.tables e below (s₁.setTop (mkF m 11 (LS_III (p0 - p1) p1 p2) [(.int ((p0 - p1) + p2))])) _
      refine XS.istoreN X0.here hx rfl (hb hby d15_11) rfl (l' := (LS_III ((p0 - p1) + p2) p1 p2)) rfl ?_
      show Steps p.tables e below (s₁.setTop (mkF m 12 (LS_III ((p0 - p1) + p2) p1 p2) [])) _
      refine XS.iloadN X0.here hx rfl (hb hby d15_12) rfl ?_
      exact k
    obtain ⟨fs, hr, hrun, hended, hW, hsame⟩ := X0.leave (v := some (.int ((p0 - p1) + p2))) (fun h => by rw [Bd.returns] at h; cases h) (BodyLoose.notSynchronized Bd)
    refine ⟨_, _, ?_, hrun, hended, _, _, rfl, ?_, ⟨_, rfl⟩, hW, hsame.mono (by decide) (by decide)⟩
    · show Steps p.tables e below (s₁.setTop (mkF m 13 (LS_III ((p0 - p1) + p2) p1 p2) [(.int ((p0 - p1) + p2))])) _
      exact retOut X0 hx Bd.returns rfl (Or.inl ⟨rfl, Or.inl rfl, _, rfl⟩) (hb hby d15_13) hr
    · show Qsub Z p0 p1 p2 h0 n0 _ s₁.heap _
      rw [e0]
      exact ⟨by rw [if_pos hc5_1], N0, rfl⟩
  · refine own_go (B := s₁.setTop (mkF m 13 (LS_III (p0 - p1) p1 p2) [(.int (p0 - p1))])) (fun t k => ?_) ?_
    · show Steps p.tables e below (s₁.setTop (mkF m 5 (LS_III (p0 - p1) p1 p2) [(.int (p0 - p1))])) _
      refine XS.ifYes X0.here hx rfl (pc0 := 5) (pc' := 12) rfl (hb hby d15_5) rfl ((if0 _ _).trans (flt hc5_1).2.1) (by decide) (by decide) ?_
      show Steps p.tables e below (s₁.setTop (mkF m 12 (LS_III (p0 - p1) p1 p2) [])) _
      refine XS.iloadN X0.here hx rfl (hb hby d15_12) rfl ?_
      exact k
    obtain ⟨fs, hr, hrun, hended, hW, hsame⟩ := X0.leave (v := some (.int (p0 - p1))) (fun h => by rw [Bd.returns] at h; cases h) (BodyLoose.notSynchronized Bd)
    refine ⟨_, _, ?_, hrun, hended, _, _, rfl, ?_, ⟨_, rfl⟩, hW, hsame.mono (by decide) (by decide)⟩
    · show Steps p.tables e below (s₁.setTop (mkF m 13 (LS_III (p0 - p1) p1 p2) [(.int (p0 - p1))])) _
      exact retOut X0 hx Bd.returns rfl (Or.inl ⟨rfl, Or.inl rfl, _, rfl⟩) (hb hby d15_13) hr
    · show Qsub Z p0 p1 p2 h0 n0 _ s₁.heap _
      rw [e0]
      exact ⟨by rw [if_neg hc5_1], N0, rfl⟩
theorem ef_inc (m : MethodId) (p0 : Int32) (p1 : Int32) : entryFrame m #[(.int p0), (.int p1)] 2 = mkF m 0 #[.val (.int p0), .val (.int p1)] [] := by first | (simp [entryFrame, mkF, argsToLocals, Value.category]; done) | rfl
theorem pn_21 : plainName "java/util/ArrayDeque" = true := by first | (simp [plainName, overriddenIn]; done) | decide +kernel
theorem d21_0 : decode jdk_21_method_6_code 0 = .ok (.iinc 0 1, 3) := by decide +kernel
theorem d21_3 : decode jdk_21_method_6_code 3 = .ok (.iload_n 0, 1) := by decide +kernel
theorem d21_4 : decode jdk_21_method_6_code 4 = .ok (.iload_n 1, 1) := by decide +kernel
theorem d21_5 : decode jdk_21_method_6_code 5 = .ok (.if_icmp .lt 5, 3) := by decide +kernel
theorem d21_10 : decode jdk_21_method_6_code 10 = .ok (.iload_n 0, 1) := by decide +kernel
theorem d21_11 : decode jdk_21_method_6_code 11 = .ok (.ireturn, 1) := by decide +kernel
theorem d21_8 : decode jdk_21_method_6_code 8 = .ok (.iconst 0, 1) := by decide +kernel
theorem d21_9 : decode jdk_21_method_6_code 9 = .ok (.istore_n 0, 1) := by decide +kernel
def Qinc (Z : State) (p0 : Int32) (p1 : Int32) (h0 : Heap) (n0 : Nat) (v : Option Value) (h : Heap) (L : List Loc) : Prop := v = some (.int (if (p0 + (1 : Int32)) < p1 then (p0 + (1 : Int32)) else (0 : Int32))) ∧ Fr n0 L ∧ h = h0
set_option maxRecDepth 65536 in
set_option maxHeartbeats 40000000 in
theorem rminc (l : Launch) (Z : State) (a0 : Array Value) (hw : ∀ d ∈ tables_1, d.before a0 Z = true) (ws : List Jvm.Cond) (p0 : Int32) (p1 : Int32) (h0 : Heap) (n0 : Nat) (Z0 : n0 ≤ h0.size) :
    MetFree l (⟨"java/util/ArrayDeque", "inc", "(II)I"⟩ : MethodName) (head1 (Jvm.Cond.code (⟨"java/util/ArrayDeque", "inc", "(II)I"⟩ : MethodName) jdk_21_method_6_code 2 (some .int) :: ws) ({ frames := 0, cells := 0, slots := 0, locals := 0 } : Room)) (fun a U => a = #[(.int p0), (.int p1)] ∧ Z.Warmed39 U.vm ∧ U.heap = h0) (fun _ _ _ _ _ => True) (fun _ U o U' => ∃ v L, o = .returned v ∧ Qinc Z p0 p1 h0 n0 v U'.heap L ∧ FrameEnd U o U' L ({ frames := 0, cells := 0, slots := 0, locals := 0 } : Room).cells ({ frames := 0, cells := 0, slots := 0, locals := 0 } : Room).slots) := by
  refine MetFree.of_bodySF (plainFor_of_name pn_21) hisR ?_
  intro p e s m args below meth c s₁ Bd hml0 hP hK
  obtain ⟨rfl, hZ, hh⟩ := hP
  have hx := Bd.exec
  have hby := Bd.bytes
  have hml : c.maxLocals = 2 := hml0
  have hown : s.vm.findClass "java/util/ArrayDeque" = some m.cls := findClass_of_methodNamed Bd.named
  have hnm := (name_of_methodNamed Bd.named Bd.method).1
  have X0 : Stand p l e ({ frames := 0, cells := 0, slots := 0, locals := 0 } : Room) s m #[(.int p0), (.int p1)] below meth c s₁ [] 0 0 := Stand.of_body Bd
  have e0 : s₁.heap = h0 := by rw [← hh, Bd.state]; rfl
  have N0 := Fr.nil n0
  refine own_go (B := s₁.setTop (mkF m 0 (LS_II p0 p1) [])) (fun t k => castTop (ef_inc m p0 p1) k) ?_
  refine own_go (B := s₁.setTop (mkF m 5 (LS_II (p0 + (1 : Int32)) p1) [(.int p1), (.int (p0 + (1 : Int32)))])) (fun t k => ?_) ?_
  · show Steps p.tables e below (s₁.setTop (mkF m 0 (LS_II p0 p1) [])) _
    refine XS.iinc X0.here hx rfl (hb hby d21_0) rfl (l' := (LS_II (p0 + (1 : Int32)) p1)) rfl ?_
    show Steps p.tables e below (s₁.setTop (mkF m 3 (LS_II (p0 + (1 : Int32)) p1) [])) _
    refine XS.iloadN X0.here hx rfl (hb hby d21_3) rfl ?_
    show Steps p.tables e below (s₁.setTop (mkF m 4 (LS_II (p0 + (1 : Int32)) p1) [(.int (p0 + (1 : Int32)))])) _
    refine XS.iloadN X0.here hx rfl (hb hby d21_4) rfl ?_
    exact k
  by_cases hc5_1 : (p0 + (1 : Int32)) < p1
  · refine own_go (B := s₁.setTop (mkF m 11 (LS_II (p0 + (1 : Int32)) p1) [(.int (p0 + (1 : Int32)))])) (fun t k => ?_) ?_
    · show Steps p.tables e below (s₁.setTop (mkF m 5 (LS_II (p0 + (1 : Int32)) p1) [(.int p1), (.int (p0 + (1 : Int32)))])) _
      refine XS.icmpYes X0.here hx rfl (pc0 := 5) (pc' := 10) rfl (hb hby d21_5) rfl (tlt hc5_1).1 (by decide) (by decide) ?_
      show Steps p.tables e below (s₁.setTop (mkF m 10 (LS_II (p0 + (1 : Int32)) p1) [])) _
      refine XS.iloadN X0.here hx rfl (hb hby d21_10) rfl ?_
      exact k
    obtain ⟨fs, hr, hrun, hended, hW, hsame⟩ := X0.leave (v := some (.int (p0 + (1 : Int32)))) (fun h => by rw [Bd.returns] at h; cases h) (BodyLoose.notSynchronized Bd)
    refine ⟨_, _, ?_, hrun, hended, _, _, rfl, ?_, ⟨_, rfl⟩, hW, hsame.mono (by decide) (by decide)⟩
    · show Steps p.tables e below (s₁.setTop (mkF m 11 (LS_II (p0 + (1 : Int32)) p1) [(.int (p0 + (1 : Int32)))])) _
      exact retOut X0 hx Bd.returns rfl (Or.inl ⟨rfl, Or.inl rfl, _, rfl⟩) (hb hby d21_11) hr
    · show Qinc Z p0 p1 h0 n0 _ s₁.heap _
      rw [e0]
      exact ⟨by rw [if_pos hc5_1], N0, rfl⟩
  · refine own_go (B := s₁.setTop (mkF m 11 (LS_II (0 : Int32) p1) [(.int (0 : Int32))])) (fun t k => ?_) ?_
    · show Steps p.tables e below (s₁.setTop (mkF m 5 (LS_II (p0 + (1 : Int32)) p1) [(.int p1), (.int (p0 + (1 : Int32)))])) _
      refine XS.icmpNo X0.here hx rfl (hb hby d21_5) rfl (flt hc5_1).1 ?_
      show Steps p.tables e below (s₁.setTop (mkF m 8 (LS_II (p0 + (1 : Int32)) p1) [])) _
      refine XS.iconst X0.here hx rfl (hb hby d21_8) ?_
      show Steps p.tables e below (s₁.setTop (mkF m 9 (LS_II (p0 + (1 : Int32)) p1) [(.int (0 : Int32))])) _
      refine XS.istoreN X0.here hx rfl (hb hby d21_9) rfl (l' := (LS_II (0 : Int32) p1)) rfl ?_
      show Steps p.tables e below (s₁.setTop (mkF m 10 (LS_II (0 : Int32) p1) [])) _
      refine XS.iloadN X0.here hx rfl (hb hby d21_10) rfl ?_
      exact k
    obtain ⟨fs, hr, hrun, hended, hW, hsame⟩ := X0.leave (v := some (.int (0 : Int32))) (fun h => by rw [Bd.returns] at h; cases h) (BodyLoose.notSynchronized Bd)
    refine ⟨_, _, ?_, hrun, hended, _, _, rfl, ?_, ⟨_, rfl⟩, hW, hsame.mono (by decide) (by decide)⟩
    · show Steps p.tables e below (s₁.setTop (mkF m 11 (LS_II (0 : Int32) p1) [(.int (0 : Int32))])) _
      exact retOut X0 hx Bd.returns rfl (Or.inl ⟨rfl, Or.inl rfl, _, rfl⟩) (hb hby d21_11) hr
    · show Qinc Z p0 p1 h0 n0 _ s₁.heap _
      rw [e0]
      exact ⟨by rw [if_neg hc5_1], N0, rfl⟩
theorem ef_dcr (m : MethodId) (p0 : Int32) (p1 : Int32) : entryFrame m #[(.int p0), (.int p1)] 2 = mkF m 0 #[.val (.int p0), .val (.int p1)] [] := by first | (simp [entryFrame, mkF, argsToLocals, Value.category]; done) | rfl
theorem pn_35 : plainName "java/util/ArrayDeque" = true := by first | (simp [plainName, overriddenIn]; done) | decide +kernel
theorem d35_0 : decode jdk_21_method_7_code 0 = .ok (.iinc 0 (-1), 3) := by decide +kernel
theorem d35_3 : decode jdk_21_method_7_code 3 = .ok (.iload_n 0, 1) := by decide +kernel
theorem d35_4 : decode jdk_21_method_7_code 4 = .ok (.ifCond .ge 7, 3) := by decide +kernel
theorem d35_7 : decode jdk_21_method_7_code 7 = .ok (.iload_n 1, 1) := by decide +kernel
theorem d35_8 : decode jdk_21_method_7_code 8 = .ok (.iconst 1, 1) := by decide +kernel
theorem d35_9 : decode jdk_21_method_7_code 9 = .ok (.isub, 1) := by decide +kernel
theorem d35_10 : decode jdk_21_method_7_code 10 = .ok (.istore_n 0, 1) := by decide +kernel
theorem d35_11 : decode jdk_21_method_7_code 11 = .ok (.iload_n 0, 1) := by decide +kernel
theorem d35_12 : decode jdk_21_method_7_code 12 = .ok (.ireturn, 1) := by decide +kernel
def Qdcr (Z : State) (p0 : Int32) (p1 : Int32) (h0 : Heap) (n0 : Nat) (v : Option Value) (h : Heap) (L : List Loc) : Prop := v = some (.int (if (p0 + (-1 : Int32)) < (0 : Int32) then (p1 - (1 : Int32)) else (p0 + (-1 : Int32)))) ∧ Fr n0 L ∧ h = h0
set_option maxRecDepth 65536 in
set_option maxHeartbeats 40000000 in
theorem rmdcr (l : Launch) (Z : State) (a0 : Array Value) (hw : ∀ d ∈ tables_1, d.before a0 Z = true) (ws : List Jvm.Cond) (p0 : Int32) (p1 : Int32) (h0 : Heap) (n0 : Nat) (Z0 : n0 ≤ h0.size) :
    MetFree l (⟨"java/util/ArrayDeque", "dec", "(II)I"⟩ : MethodName) (head1 (Jvm.Cond.code (⟨"java/util/ArrayDeque", "dec", "(II)I"⟩ : MethodName) jdk_21_method_7_code 2 (some .int) :: ws) ({ frames := 0, cells := 0, slots := 0, locals := 0 } : Room)) (fun a U => a = #[(.int p0), (.int p1)] ∧ Z.Warmed39 U.vm ∧ U.heap = h0) (fun _ _ _ _ _ => True) (fun _ U o U' => ∃ v L, o = .returned v ∧ Qdcr Z p0 p1 h0 n0 v U'.heap L ∧ FrameEnd U o U' L ({ frames := 0, cells := 0, slots := 0, locals := 0 } : Room).cells ({ frames := 0, cells := 0, slots := 0, locals := 0 } : Room).slots) := by
  refine MetFree.of_bodySF (plainFor_of_name pn_35) hisR ?_
  intro p e s m args below meth c s₁ Bd hml0 hP hK
  obtain ⟨rfl, hZ, hh⟩ := hP
  have hx := Bd.exec
  have hby := Bd.bytes
  have hml : c.maxLocals = 2 := hml0
  have hown : s.vm.findClass "java/util/ArrayDeque" = some m.cls := findClass_of_methodNamed Bd.named
  have hnm := (name_of_methodNamed Bd.named Bd.method).1
  have X0 : Stand p l e ({ frames := 0, cells := 0, slots := 0, locals := 0 } : Room) s m #[(.int p0), (.int p1)] below meth c s₁ [] 0 0 := Stand.of_body Bd
  have e0 : s₁.heap = h0 := by rw [← hh, Bd.state]; rfl
  have N0 := Fr.nil n0
  refine own_go (B := s₁.setTop (mkF m 0 (LS_II p0 p1) [])) (fun t k => castTop (ef_dcr m p0 p1) k) ?_
  refine own_go (B := s₁.setTop (mkF m 4 (LS_II (p0 + (-1 : Int32)) p1) [(.int (p0 + (-1 : Int32)))])) (fun t k => ?_) ?_
  · show Steps p.tables e below (s₁.setTop (mkF m 0 (LS_II p0 p1) [])) _
    refine XS.iinc X0.here hx rfl (hb hby d35_0) rfl (l' := (LS_II (p0 + (-1 : Int32)) p1)) rfl ?_
    show Steps p.tables e below (s₁.setTop (mkF m 3 (LS_II (p0 + (-1 : Int32)) p1) [])) _
    refine XS.iloadN X0.here hx rfl (hb hby d35_3) rfl ?_
    exact k
  by_cases hc4_1 : (p0 + (-1 : Int32)) < (0 : Int32)
  · refine own_go (B := s₁.setTop (mkF m 12 (LS_II (p1 - (1 : Int32)) p1) [(.int (p1 - (1 : Int32)))])) (fun t k => ?_) ?_
    · show Steps p.tables e below (s₁.setTop (mkF m 4 (LS_II (p0 + (-1 : Int32)) p1) [(.int (p0 + (-1 : Int32)))])) _
      refine XS.ifNo X0.here hx rfl (hb hby d35_4) rfl ((if0 _ _).trans (tlt hc4_1).2.1) ?_
      show Steps p.tables e below (s₁.setTop (mkF m 7 (LS_II (p0 + (-1 : Int32)) p1) [])) _
      refine XS.iloadN X0.here hx rfl (hb hby d35_7) rfl ?_
      show Steps p.tables e below (s₁.setTop (mkF m 8 (LS_II (p0 + (-1 : Int32)) p1) [(.int p1)])) _
      refine XS.iconst X0.here hx rfl (hb hby d35_8) ?_
      show Steps p.tables e below (s₁.setTop (mkF m 9 (LS_II (p0 + (-1 : Int32)) p1) [(.int (1 : Int32)), (.int p1)])) _
      refine XS.isub X0.here hx rfl (hb hby d35_9) rfl ?_
      show Steps p.tables e below (s₁.setTop (mkF m 10 (LS_II (p0 + (-1 : Int32)) p1) [(.int (p1 - (1 : Int32)))])) _
      refine XS.istoreN X0.here hx rfl (hb hby d35_10) rfl (l' := (LS_II (p1 - (1 : Int32)) p1)) rfl ?_
      show Steps p.tables e below (s₁.setTop (mkF m 11 (LS_II (p1 - (1 : Int32)) p1) [])) _
      refine XS.iloadN X0.here hx rfl (hb hby d35_11) rfl ?_
      exact k
    obtain ⟨fs, hr, hrun, hended, hW, hsame⟩ := X0.leave (v := some (.int (p1 - (1 : Int32)))) (fun h => by rw [Bd.returns] at h; cases h) (BodyLoose.notSynchronized Bd)
    refine ⟨_, _, ?_, hrun, hended, _, _, rfl, ?_, ⟨_, rfl⟩, hW, hsame.mono (by decide) (by decide)⟩
    · show Steps p.tables e below (s₁.setTop (mkF m 12 (LS_II (p1 - (1 : Int32)) p1) [(.int (p1 - (1 : Int32)))])) _
      exact retOut X0 hx Bd.returns rfl (Or.inl ⟨rfl, Or.inl rfl, _, rfl⟩) (hb hby d35_12) hr
    · show Qdcr Z p0 p1 h0 n0 _ s₁.heap _
      rw [e0]
      exact ⟨by rw [if_pos hc4_1], N0, rfl⟩
  · refine own_go (B := s₁.setTop (mkF m 12 (LS_II (p0 + (-1 : Int32)) p1) [(.int (p0 + (-1 : Int32)))])) (fun t k => ?_) ?_
    · show Steps p.tables e below (s₁.setTop (mkF m 4 (LS_II (p0 + (-1 : Int32)) p1) [(.int (p0 + (-1 : Int32)))])) _
      refine XS.ifYes X0.here hx rfl (pc0 := 4) (pc' := 11) rfl (hb hby d35_4) rfl ((if0 _ _).trans (flt hc4_1).2.1) (by decide) (by decide) ?_
      show Steps p.tables e below (s₁.setTop (mkF m 11 (LS_II (p0 + (-1 : Int32)) p1) [])) _
      refine XS.iloadN X0.here hx rfl (hb hby d35_11) rfl ?_
      exact k
    obtain ⟨fs, hr, hrun, hended, hW, hsame⟩ := X0.leave (v := some (.int (p0 + (-1 : Int32)))) (fun h => by rw [Bd.returns] at h; cases h) (BodyLoose.notSynchronized Bd)
    refine ⟨_, _, ?_, hrun, hended, _, _, rfl, ?_, ⟨_, rfl⟩, hW, hsame.mono (by decide) (by decide)⟩
    · show Steps p.tables e below (s₁.setTop (mkF m 12 (LS_II (p0 + (-1 : Int32)) p1) [(.int (p0 + (-1 : Int32)))])) _
      exact retOut X0 hx Bd.returns rfl (Or.inl ⟨rfl, Or.inl rfl, _, rfl⟩) (hb hby d35_12) hr
    · show Qdcr Z p0 p1 h0 n0 _ s₁.heap _
      rw [e0]
      exact ⟨by rw [if_neg hc4_1], N0, rfl⟩
theorem ef_eat100 (m : MethodId) (r0 : Addr) : entryFrame m #[(.ref r0), (.int (0 : Int32))] 2 = mkF m 0 #[.val (.ref r0), .val (.int (0 : Int32))] [] := by first | (simp [entryFrame, mkF, argsToLocals, Value.category]; done) | rfl
theorem pn_30 : plainName "java/util/ArrayDeque" = true := by first | (simp [plainName, overriddenIn]; done) | decide +kernel
theorem d30_0 : decode jdk_21_method_10_code 0 = .ok (.aload_n 0, 1) := by decide +kernel
theorem d30_1 : decode jdk_21_method_10_code 1 = .ok (.iload_n 1, 1) := by decide +kernel
theorem d30_2 : decode jdk_21_method_10_code 2 = .ok (.aaload, 1) := by decide +kernel
theorem d30_3 : decode jdk_21_method_10_code 3 = .ok (.areturn, 1) := by decide +kernel
def Qeat100 (Z : State) (r0 : Addr) (ka : ClassId) (x0 : Addr) (h0 : Heap) (n0 : Nat) (v : Option Value) (h : Heap) (L : List Loc) : Prop := v = some (.ref x0) ∧ Fr n0 L ∧ h = h0
set_option maxRecDepth 65536 in
set_option maxHeartbeats 40000000 in
theorem rmeat100 (l : Launch) (Z : State) (a0 : Array Value) (hw : ∀ d ∈ tables_1, d.before a0 Z = true) (ws : List Jvm.Cond) (r0 : Addr) (ka : ClassId) (x0 : Addr) (h0 : Heap) (n0 : Nat) (Z0 : n0 ≤ h0.size) (P3 : Arv Z h0 r0 ka (.object "java/lang/Object") (17 : Int32) [(.ref x0), .null, .null, .null, .null, .null, .null, .null, .null, .null, .null, .null, .null, .null, .null, .null, .null] .null) :
    MetFree l (⟨"java/util/ArrayDeque", "elementAt", "([Ljava/lang/Object;I)Ljava/lang/Object;"⟩ : MethodName) (head1 (Jvm.Cond.code (⟨"java/util/ArrayDeque", "elementAt", "([Ljava/lang/Object;I)Ljava/lang/Object;"⟩ : MethodName) jdk_21_method_10_code 2 (some (.object "java/lang/Object")) :: ws) ({ frames := 0, cells := 0, slots := 0, locals := 0 } : Room)) (fun a U => a = #[(.ref r0), (.int (0 : Int32))] ∧ Z.Warmed39 U.vm ∧ U.heap = h0) (fun _ _ _ _ _ => True) (fun _ U o U' => ∃ v L, o = .returned v ∧ Qeat100 Z r0 ka x0 h0 n0 v U'.heap L ∧ FrameEnd U o U' L ({ frames := 0, cells := 0, slots := 0, locals := 0 } : Room).cells ({ frames := 0, cells := 0, slots := 0, locals := 0 } : Room).slots) := by
  refine MetFree.of_bodySF (plainFor_of_name pn_30) hisR ?_
  intro p e s m args below meth c s₁ Bd hml0 hP hK
  obtain ⟨rfl, hZ, hh⟩ := hP
  have hx := Bd.exec
  have hby := Bd.bytes
  have hml : c.maxLocals = 2 := hml0
  have hown : s.vm.findClass "java/util/ArrayDeque" = some m.cls := findClass_of_methodNamed Bd.named
  have hnm := (name_of_methodNamed Bd.named Bd.method).1
  have X0 : Stand p l e ({ frames := 0, cells := 0, slots := 0, locals := 0 } : Room) s m #[(.ref r0), (.int (0 : Int32))] below meth c s₁ [] 0 0 := Stand.of_body Bd
  have e0 : s₁.heap = h0 := by rw [← hh, Bd.state]; rfl
  have N0 := Fr.nil n0
  refine own_go (B := s₁.setTop (mkF m 0 (LS_RI r0 (0 : Int32)) [])) (fun t k => castTop (ef_eat100 m r0) k) ?_
  obtain ⟨cl1, Ar1, qa1, Sa1, Na1, Ha1, Ga1⟩ := id P3
  have hin2 : ¬ ((0 : Int32) < 0 ∨ cl1.slots.size ≤ ((0 : Int32)).toNatClampNeg) := inb_of Sa1 ⟨by decide, by decide⟩
  have hat2 : cl1.slots[((0 : Int32)).toNatClampNeg]? = some (.ref x0) := Has.at Ha1 hin2 rfl
  refine own_go (B := s₁.setTop (mkF m 3 (LS_RI r0 (0 : Int32)) [(.ref x0)])) (fun t k => ?_) ?_
  · show Steps p.tables e below (s₁.setTop (mkF m 0 (LS_RI r0 (0 : Int32)) [])) _
    refine XS.aloadN X0.here hx rfl (hb hby d30_0) rfl rfl ?_
    show Steps p.tables e below (s₁.setTop (mkF m 1 (LS_RI r0 (0 : Int32)) [(.ref r0)])) _
    refine XS.iloadN X0.here hx rfl (hb hby d30_1) rfl ?_
    show Steps p.tables e below (s₁.setTop (mkF m 2 (LS_RI r0 (0 : Int32)) [(.int (0 : Int32)), (.ref r0)])) _
    refine X0.aaload hx (j := (0 : Int32)) (v := (.ref x0)) (by rw [e0]; exact Ar1.1) (State.isArrayOf_alike hZ.alike Ar1.2.1) rfl Ar1.2.2 hin2 hat2 (g := (mkF m 2 (LS_RI r0 (0 : Int32)) [(.int (0 : Int32)), (.ref r0)])) rfl rfl (hb hby d30_2) _ ?_
    exact k
  obtain ⟨fs, hr, hrun, hended, hW, hsame⟩ := X0.leave (v := some (.ref x0)) (fun h => by rw [Bd.returns] at h; cases h) (BodyLoose.notSynchronized Bd)
  refine ⟨_, _, ?_, hrun, hended, _, _, rfl, ?_, ⟨_, rfl⟩, hW, hsame.mono (by decide) (by decide)⟩
  · show Steps p.tables e below (s₁.setTop (mkF m 3 (LS_RI r0 (0 : Int32)) [(.ref x0)])) _
    exact retOut X0 hx Bd.returns rfl (Or.inr (Or.inr (Or.inr (Or.inr ⟨rfl, rfl, rfl⟩)))) (hb hby d30_3) hr
  · show Qeat100 Z r0 ka x0 h0 n0 _ s₁.heap _
    rw [e0]
    exact ⟨rfl, N0, rfl⟩
theorem ef_eat011 (m : MethodId) (r0 : Addr) : entryFrame m #[(.ref r0), (.int (1 : Int32))] 2 = mkF m 0 #[.val (.ref r0), .val (.int (1 : Int32))] [] := by first | (simp [entryFrame, mkF, argsToLocals, Value.category]; done) | rfl
def Qeat011 (Z : State) (r0 : Addr) (ka : ClassId) (x1 : Addr) (h0 : Heap) (n0 : Nat) (v : Option Value) (h : Heap) (L : List Loc) : Prop := v = some (.ref x1) ∧ Fr n0 L ∧ h = h0
set_option maxRecDepth 65536 in
set_option maxHeartbeats 40000000 in
theorem rmeat011 (l : Launch) (Z : State) (a0 : Array Value) (hw : ∀ d ∈ tables_1, d.before a0 Z = true) (ws : List Jvm.Cond) (r0 : Addr) (ka : ClassId) (x1 : Addr) (h0 : Heap) (n0 : Nat) (Z0 : n0 ≤ h0.size) (P3 : Arv Z h0 r0 ka (.object "java/lang/Object") (17 : Int32) [.null, (.ref x1), .null, .null, .null, .null, .null, .null, .null, .null, .null, .null, .null, .null, .null, .null, .null] .null) :
    MetFree l (⟨"java/util/ArrayDeque", "elementAt", "([Ljava/lang/Object;I)Ljava/lang/Object;"⟩ : MethodName) (head1 (Jvm.Cond.code (⟨"java/util/ArrayDeque", "elementAt", "([Ljava/lang/Object;I)Ljava/lang/Object;"⟩ : MethodName) jdk_21_method_10_code 2 (some (.object "java/lang/Object")) :: ws) ({ frames := 0, cells := 0, slots := 0, locals := 0 } : Room)) (fun a U => a = #[(.ref r0), (.int (1 : Int32))] ∧ Z.Warmed39 U.vm ∧ U.heap = h0) (fun _ _ _ _ _ => True) (fun _ U o U' => ∃ v L, o = .returned v ∧ Qeat011 Z r0 ka x1 h0 n0 v U'.heap L ∧ FrameEnd U o U' L ({ frames := 0, cells := 0, slots := 0, locals := 0 } : Room).cells ({ frames := 0, cells := 0, slots := 0, locals := 0 } : Room).slots) := by
  refine MetFree.of_bodySF (plainFor_of_name pn_30) hisR ?_
  intro p e s m args below meth c s₁ Bd hml0 hP hK
  obtain ⟨rfl, hZ, hh⟩ := hP
  have hx := Bd.exec
  have hby := Bd.bytes
  have hml : c.maxLocals = 2 := hml0
  have hown : s.vm.findClass "java/util/ArrayDeque" = some m.cls := findClass_of_methodNamed Bd.named
  have hnm := (name_of_methodNamed Bd.named Bd.method).1
  have X0 : Stand p l e ({ frames := 0, cells := 0, slots := 0, locals := 0 } : Room) s m #[(.ref r0), (.int (1 : Int32))] below meth c s₁ [] 0 0 := Stand.of_body Bd
  have e0 : s₁.heap = h0 := by rw [← hh, Bd.state]; rfl
  have N0 := Fr.nil n0
  refine own_go (B := s₁.setTop (mkF m 0 (LS_RI r0 (1 : Int32)) [])) (fun t k => castTop (ef_eat011 m r0) k) ?_
  obtain ⟨cl1, Ar1, qa1, Sa1, Na1, Ha1, Ga1⟩ := id P3
  have hin2 : ¬ ((1 : Int32) < 0 ∨ cl1.slots.size ≤ ((1 : Int32)).toNatClampNeg) := inb_of Sa1 ⟨by decide, by decide⟩
  have hat2 : cl1.slots[((1 : Int32)).toNatClampNeg]? = some (.ref x1) := Has.at Ha1 hin2 rfl
  refine own_go (B := s₁.setTop (mkF m 3 (LS_RI r0 (1 : Int32)) [(.ref x1)])) (fun t k => ?_) ?_
  · show Steps p.tables e below (s₁.setTop (mkF m 0 (LS_RI r0 (1 : Int32)) [])) _
    refine XS.aloadN X0.here hx rfl (hb hby d30_0) rfl rfl ?_
    show Steps p.tables e below (s₁.setTop (mkF m 1 (LS_RI r0 (1 : Int32)) [(.ref r0)])) _
    refine XS.iloadN X0.here hx rfl (hb hby d30_1) rfl ?_
    show Steps p.tables e below (s₁.setTop (mkF m 2 (LS_RI r0 (1 : Int32)) [(.int (1 : Int32)), (.ref r0)])) _
    refine X0.aaload hx (j := (1 : Int32)) (v := (.ref x1)) (by rw [e0]; exact Ar1.1) (State.isArrayOf_alike hZ.alike Ar1.2.1) rfl Ar1.2.2 hin2 hat2 (g := (mkF m 2 (LS_RI r0 (1 : Int32)) [(.int (1 : Int32)), (.ref r0)])) rfl rfl (hb hby d30_2) _ ?_
    exact k
  obtain ⟨fs, hr, hrun, hended, hW, hsame⟩ := X0.leave (v := some (.ref x1)) (fun h => by rw [Bd.returns] at h; cases h) (BodyLoose.notSynchronized Bd)
  refine ⟨_, _, ?_, hrun, hended, _, _, rfl, ?_, ⟨_, rfl⟩, hW, hsame.mono (by decide) (by decide)⟩
  · show Steps p.tables e below (s₁.setTop (mkF m 3 (LS_RI r0 (1 : Int32)) [(.ref x1)])) _
    exact retOut X0 hx Bd.returns rfl (Or.inr (Or.inr (Or.inr (Or.inr ⟨rfl, rfl, rfl⟩)))) (hb hby d30_3) hr
  · show Qeat011 Z r0 ka x1 h0 n0 _ s₁.heap _
    rw [e0]
    exact ⟨rfl, N0, rfl⟩
theorem ef_eat111 (m : MethodId) (r0 : Addr) : entryFrame m #[(.ref r0), (.int (1 : Int32))] 2 = mkF m 0 #[.val (.ref r0), .val (.int (1 : Int32))] [] := by first | (simp [entryFrame, mkF, argsToLocals, Value.category]; done) | rfl
def Qeat111 (Z : State) (r0 : Addr) (ka : ClassId) (x0 x1 : Addr) (h0 : Heap) (n0 : Nat) (v : Option Value) (h : Heap) (L : List Loc) : Prop := v = some (.ref x1) ∧ Fr n0 L ∧ h = h0
set_option maxRecDepth 65536 in
set_option maxHeartbeats 40000000 in
theorem rmeat111 (l : Launch) (Z : State) (a0 : Array Value) (hw : ∀ d ∈ tables_1, d.before a0 Z = true) (ws : List Jvm.Cond) (r0 : Addr) (ka : ClassId) (x0 x1 : Addr) (h0 : Heap) (n0 : Nat) (Z0 : n0 ≤ h0.size) (P3 : Arv Z h0 r0 ka (.object "java/lang/Object") (17 : Int32) [(.ref x0), (.ref x1), .null, .null, .null, .null, .null, .null, .null, .null, .null, .null, .null, .null, .null, .null, .null] .null) :
    MetFree l (⟨"java/util/ArrayDeque", "elementAt", "([Ljava/lang/Object;I)Ljava/lang/Object;"⟩ : MethodName) (head1 (Jvm.Cond.code (⟨"java/util/ArrayDeque", "elementAt", "([Ljava/lang/Object;I)Ljava/lang/Object;"⟩ : MethodName) jdk_21_method_10_code 2 (some (.object "java/lang/Object")) :: ws) ({ frames := 0, cells := 0, slots := 0, locals := 0 } : Room)) (fun a U => a = #[(.ref r0), (.int (1 : Int32))] ∧ Z.Warmed39 U.vm ∧ U.heap = h0) (fun _ _ _ _ _ => True) (fun _ U o U' => ∃ v L, o = .returned v ∧ Qeat111 Z r0 ka x0 x1 h0 n0 v U'.heap L ∧ FrameEnd U o U' L ({ frames := 0, cells := 0, slots := 0, locals := 0 } : Room).cells ({ frames := 0, cells := 0, slots := 0, locals := 0 } : Room).slots) := by
  refine MetFree.of_bodySF (plainFor_of_name pn_30) hisR ?_
  intro p e s m args below meth c s₁ Bd hml0 hP hK
  obtain ⟨rfl, hZ, hh⟩ := hP
  have hx := Bd.exec
  have hby := Bd.bytes
  have hml : c.maxLocals = 2 := hml0
  have hown : s.vm.findClass "java/util/ArrayDeque" = some m.cls := findClass_of_methodNamed Bd.named
  have hnm := (name_of_methodNamed Bd.named Bd.method).1
  have X0 : Stand p l e ({ frames := 0, cells := 0, slots := 0, locals := 0 } : Room) s m #[(.ref r0), (.int (1 : Int32))] below meth c s₁ [] 0 0 := Stand.of_body Bd
  have e0 : s₁.heap = h0 := by rw [← hh, Bd.state]; rfl
  have N0 := Fr.nil n0
  refine own_go (B := s₁.setTop (mkF m 0 (LS_RI r0 (1 : Int32)) [])) (fun t k => castTop (ef_eat111 m r0) k) ?_
  obtain ⟨cl1, Ar1, qa1, Sa1, Na1, Ha1, Ga1⟩ := id P3
  have hin2 : ¬ ((1 : Int32) < 0 ∨ cl1.slots.size ≤ ((1 : Int32)).toNatClampNeg) := inb_of Sa1 ⟨by decide, by decide⟩
  have hat2 : cl1.slots[((1 : Int32)).toNatClampNeg]? = some (.ref x1) := Has.at Ha1 hin2 rfl
  refine own_go (B := s₁.setTop (mkF m 3 (LS_RI r0 (1 : Int32)) [(.ref x1)])) (fun t k => ?_) ?_
  · show Steps p.tables e below (s₁.setTop (mkF m 0 (LS_RI r0 (1 : Int32)) [])) _
    refine XS.aloadN X0.here hx rfl (hb hby d30_0) rfl rfl ?_
    show Steps p.tables e below (s₁.setTop (mkF m 1 (LS_RI r0 (1 : Int32)) [(.ref r0)])) _
    refine XS.iloadN X0.here hx rfl (hb hby d30_1) rfl ?_
    show Steps p.tables e below (s₁.setTop (mkF m 2 (LS_RI r0 (1 : Int32)) [(.int (1 : Int32)), (.ref r0)])) _
    refine X0.aaload hx (j := (1 : Int32)) (v := (.ref x1)) (by rw [e0]; exact Ar1.1) (State.isArrayOf_alike hZ.alike Ar1.2.1) rfl Ar1.2.2 hin2 hat2 (g := (mkF m 2 (LS_RI r0 (1 : Int32)) [(.int (1 : Int32)), (.ref r0)])) rfl rfl (hb hby d30_2) _ ?_
    exact k
  obtain ⟨fs, hr, hrun, hended, hW, hsame⟩ := X0.leave (v := some (.ref x1)) (fun h => by rw [Bd.returns] at h; cases h) (BodyLoose.notSynchronized Bd)
  refine ⟨_, _, ?_, hrun, hended, _, _, rfl, ?_, ⟨_, rfl⟩, hW, hsame.mono (by decide) (by decide)⟩
  · show Steps p.tables e below (s₁.setTop (mkF m 3 (LS_RI r0 (1 : Int32)) [(.ref x1)])) _
    exact retOut X0 hx Bd.returns rfl (Or.inr (Or.inr (Or.inr (Or.inr ⟨rfl, rfl, rfl⟩)))) (hb hby d30_3) hr
  · show Qeat111 Z r0 ka x0 x1 h0 n0 _ s₁.heap _
    rw [e0]
    exact ⟨rfl, N0, rfl⟩
theorem ef_emp (m : MethodId) (r0 : Addr) : entryFrame m #[(.ref r0)] 1 = mkF m 0 #[.val (.ref r0)] [] := by first | (simp [entryFrame, mkF, argsToLocals, Value.category]; done) | rfl
theorem pn_12 : plainName "java/util/ArrayDeque" = true := by first | (simp [plainName, overriddenIn]; done) | decide +kernel
theorem d12_0 : decode jdk_21_method_38_code 0 = .ok (.aload_n 0, 1) := by decide +kernel
theorem d12_1 : decode jdk_21_method_38_code 1 = .ok (.getfield 24, 3) := by decide +kernel
theorem d12_4 : decode jdk_21_method_38_code 4 = .ok (.aload_n 0, 1) := by decide +kernel
theorem d12_5 : decode jdk_21_method_38_code 5 = .ok (.getfield 20, 3) := by decide +kernel
theorem d12_8 : decode jdk_21_method_38_code 8 = .ok (.if_icmp .ne 7, 3) := by decide +kernel
theorem d12_11 : decode jdk_21_method_38_code 11 = .ok (.iconst 1, 1) := by decide +kernel
theorem d12_12 : decode jdk_21_method_38_code 12 = .ok (.goto 4, 3) := by decide +kernel
theorem d12_16 : decode jdk_21_method_38_code 16 = .ok (.ireturn, 1) := by decide +kernel
theorem d12_15 : decode jdk_21_method_38_code 15 = .ok (.iconst 0, 1) := by decide +kernel
def Qemp (Z : State) (r0 : Addr) (hd tl : Int32) (h0 : Heap) (n0 : Nat) (v : Option Value) (h : Heap) (L : List Loc) : Prop := v = some (.int (if hd = tl then (1 : Int32) else (0 : Int32))) ∧ Fr n0 L ∧ h = h0
set_option maxRecDepth 65536 in
set_option maxHeartbeats 40000000 in
theorem rmemp (l : Launch) (Z : State) (a0 : Array Value) (hw : ∀ d ∈ tables_1, d.before a0 Z = true) (ws : List Jvm.Cond) (r0 : Addr) (hd tl : Int32) (h0 : Heap) (n0 : Nat) (Z0 : n0 ≤ h0.size) (F1 : Fld Z h0 r0 "java/util/ArrayDeque" "head" "I" (.int hd)) (F2 : Fld Z h0 r0 "java/util/ArrayDeque" "tail" "I" (.int tl)) :
    MetFree l (⟨"java/util/ArrayDeque", "isEmpty", "()Z"⟩ : MethodName) (head1 (Jvm.Cond.code (⟨"java/util/ArrayDeque", "isEmpty", "()Z"⟩ : MethodName) jdk_21_method_38_code 1 (some .boolean) :: ws) ({ frames := 0, cells := 0, slots := 0, locals := 0 } : Room)) (fun a U => a = #[(.ref r0)] ∧ Z.Warmed39 U.vm ∧ U.heap = h0) (fun _ _ _ _ _ => True) (fun _ U o U' => ∃ v L, o = .returned v ∧ Qemp Z r0 hd tl h0 n0 v U'.heap L ∧ FrameEnd U o U' L ({ frames := 0, cells := 0, slots := 0, locals := 0 } : Room).cells ({ frames := 0, cells := 0, slots := 0, locals := 0 } : Room).slots) := by
  refine MetFree.of_bodySF (plainFor_of_name pn_12) hisR ?_
  intro p e s m args below meth c s₁ Bd hml0 hP hK
  obtain ⟨rfl, hZ, hh⟩ := hP
  have hx := Bd.exec
  have hby := Bd.bytes
  have hml : c.maxLocals = 1 := hml0
  have hown : s.vm.findClass "java/util/ArrayDeque" = some m.cls := findClass_of_methodNamed Bd.named
  have hnm := (name_of_methodNamed Bd.named Bd.method).1
  have X0 : Stand p l e ({ frames := 0, cells := 0, slots := 0, locals := 0 } : Room) s m #[(.ref r0)] below meth c s₁ [] 0 0 := Stand.of_body Bd
  have e0 : s₁.heap = h0 := by rw [← hh, Bd.state]; rfl
  have N0 := Fr.nil n0
  refine own_go (B := s₁.setTop (mkF m 0 (LS_R r0) [])) (fun t k => castTop (ef_emp m r0) k) ?_
  refine own_go (B := s₁.setTop (mkF m 1 (LS_R r0) [(.ref r0)])) (fun t k => ?_) ?_
  · show Steps p.tables e below (s₁.setTop (mkF m 0 (LS_R r0) [])) _
    refine XS.aloadN X0.here hx rfl (hb hby d12_0) rfl rfl ?_
    exact k
  obtain ⟨T1, X1, e1, st1⟩ := getF X0 hx hZ hown (host := "") (Or.inl (hw _ (List.mem_of_getElem? (i := 104) rfl))) Via.refl e0 F1 (g := (mkF m 1 (LS_R r0) [(.ref r0)])) rfl rfl (hb hby d12_1)
  refine own_go (B := T1.setTop (mkF m 4 (LS_R r0) [(.int hd)])) (fun t k => st1 _ k) ?_
  refine own_go (B := T1.setTop (mkF m 5 (LS_R r0) [(.ref r0), (.int hd)])) (fun t k => ?_) ?_
  · show Steps p.tables e below (T1.setTop (mkF m 4 (LS_R r0) [(.int hd)])) _
    refine XS.aloadN X1.here hx rfl (hb hby d12_4) rfl rfl ?_
    exact k
  obtain ⟨T2, X2, e2, st2⟩ := getF X1 hx hZ hown (host := "") (Or.inl (hw _ (List.mem_of_getElem? (i := 106) rfl))) Via.refl e1 F2 (g := (mkF m 5 (LS_R r0) [(.ref r0), (.int hd)])) rfl rfl (hb hby d12_5)
  refine own_go (B := T2.setTop (mkF m 8 (LS_R r0) [(.int tl), (.int hd)])) (fun t k => st2 _ k) ?_
  by_cases hc8_3 : hd = tl
  · refine own_go (B := T2.setTop (mkF m 16 (LS_R r0) [(.int (1 : Int32))])) (fun t k => ?_) ?_
    · show Steps p.tables e below (T2.setTop (mkF m 8 (LS_R r0) [(.int tl), (.int hd)])) _
      refine XS.icmpNo X2.here hx rfl (hb hby d12_8) rfl (teq hc8_3).2 ?_
      show Steps p.tables e below (T2.setTop (mkF m 11 (LS_R r0) [])) _
      refine XS.iconst X2.here hx rfl (hb hby d12_11) ?_
      show Steps p.tables e below (T2.setTop (mkF m 12 (LS_R r0) [(.int (1 : Int32))])) _
      refine XS.goto X2.here hx rfl (pc0 := 12) (pc' := 16) rfl (hb hby d12_12) (by decide) (by decide) ?_
      exact k
    obtain ⟨fs, hr, hrun, hended, hW, hsame⟩ := X2.leave (v := some (.int (1 : Int32))) (fun h => by rw [Bd.returns] at h; cases h) (BodyLoose.notSynchronized Bd)
    refine ⟨_, _, ?_, hrun, hended, _, _, rfl, ?_, ⟨_, rfl⟩, hW, hsame.mono (by decide) (by decide)⟩
    · show Steps p.tables e below (T2.setTop (mkF m 16 (LS_R r0) [(.int (1 : Int32))])) _
      exact retN X2 hx (t := .boolean) Bd.returns (by simp) (hb hby d12_16) hr
    · show Qemp Z r0 hd tl h0 n0 _ T2.heap _
      rw [e2]
      exact ⟨by rw [if_pos hc8_3], N0, rfl⟩
  · refine own_go (B := T2.setTop (mkF m 16 (LS_R r0) [(.int (0 : Int32))])) (fun t k => ?_) ?_
    · show Steps p.tables e below (T2.setTop (mkF m 8 (LS_R r0) [(.int tl), (.int hd)])) _
      refine XS.icmpYes X2.here hx rfl (pc0 := 8) (pc' := 15) rfl (hb hby d12_8) rfl (feq hc8_3).2 (by decide) (by decide) ?_
      show Steps p.tables e below (T2.setTop (mkF m 15 (LS_R r0) [])) _
      refine XS.iconst X2.here hx rfl (hb hby d12_15) ?_
      exact k
    obtain ⟨fs, hr, hrun, hended, hW, hsame⟩ := X2.leave (v := some (.int (0 : Int32))) (fun h => by rw [Bd.returns] at h; cases h) (BodyLoose.notSynchronized Bd)
    refine ⟨_, _, ?_, hrun, hended, _, _, rfl, ?_, ⟨_, rfl⟩, hW, hsame.mono (by decide) (by decide)⟩
    · show Steps p.tables e below (T2.setTop (mkF m 16 (LS_R r0) [(.int (0 : Int32))])) _
      exact retN X2 hx (t := .boolean) Bd.returns (by simp) (hb hby d12_16) hr
    · show Qemp Z r0 hd tl h0 n0 _ T2.heap _
      rw [e2]
      exact ⟨by rw [if_neg hc8_3], N0, rfl⟩
theorem ef_siz00_0_0 (m : MethodId) (r0 : Addr) : entryFrame m #[(.ref r0)] 1 = mkF m 0 #[.val (.ref r0)] [] := by first | (simp [entryFrame, mkF, argsToLocals, Value.category]; done) | rfl
theorem pn_14 : plainName "java/util/ArrayDeque" = true := by first | (simp [plainName, overriddenIn]; done) | decide +kernel
theorem d14_0 : decode jdk_21_method_37_code 0 = .ok (.aload_n 0, 1) := by decide +kernel
theorem d14_1 : decode jdk_21_method_37_code 1 = .ok (.getfield 20, 3) := by decide +kernel
theorem d14_4 : decode jdk_21_method_37_code 4 = .ok (.aload_n 0, 1) := by decide +kernel
theorem d14_5 : decode jdk_21_method_37_code 5 = .ok (.getfield 24, 3) := by decide +kernel
theorem d14_8 : decode jdk_21_method_37_code 8 = .ok (.aload_n 0, 1) := by decide +kernel
theorem d14_9 : decode jdk_21_method_37_code 9 = .ok (.getfield 3, 3) := by decide +kernel
theorem d14_12 : decode jdk_21_method_37_code 12 = .ok (.arraylength, 1) := by decide +kernel
theorem d14_13 : decode jdk_21_method_37_code 13 = .ok (.invokestatic 127, 3) := by decide +kernel
theorem pd__III_I : parseMethodDescriptor "(III)I" = some ⟨[.int, .int, .int], some .int⟩ := by decide +kernel
theorem d14_16 : decode jdk_21_method_37_code 16 = .ok (.ireturn, 1) := by decide +kernel
def Qsiz00_0_0 (Z : State) (r0 : Addr) (ea : Addr) (ka : ClassId) (h0 : Heap) (n0 : Nat) (v : Option Value) (h : Heap) (L : List Loc) : Prop := v = some (.int (0 : Int32)) ∧ Fr n0 L ∧ h = h0
set_option maxRecDepth 65536 in
set_option maxHeartbeats 40000000 in
theorem rmsiz00_0_0 (l : Launch) (Z : State) (a0 : Array Value) (hw : ∀ d ∈ tables_1, d.before a0 Z = true) (ws : List Jvm.Cond) (r0 : Addr) (ea : Addr) (ka : ClassId) (h0 : Heap) (n0 : Nat) (Z0 : n0 ≤ h0.size) (E0 : Exa Z h0 r0 "java/util/ArrayDeque") (P0 : Fld Z h0 r0 "java/util/ArrayDeque" "elements" "[Ljava/lang/Object;" (.ref ea)) (P1 : Fld Z h0 r0 "java/util/ArrayDeque" "head" "I" (.int (0 : Int32))) (P2 : Fld Z h0 r0 "java/util/ArrayDeque" "tail" "I" (.int (0 : Int32))) (P3 : Arv Z h0 ea ka (.object "java/lang/Object") (17 : Int32) [.null, .null, .null, .null, .null, .null, .null, .null, .null, .null, .null, .null, .null, .null, .null, .null, .null] .null) (Ov : Ovr Z ka "java/lang/Object") (g_r0 : n0 ≤ r0) (g_ea : n0 ≤ ea) :
    MetFree l (⟨"java/util/ArrayDeque", "size", "()I"⟩ : MethodName) (head1 (Jvm.Cond.code (⟨"java/util/ArrayDeque", "size", "()I"⟩ : MethodName) jdk_21_method_37_code 1 (some .int) :: ws) ({ frames := 1, cells := 0, slots := 0, locals := 20 } : Room)) (fun a U => a = #[(.ref r0)] ∧ Z.Warmed39 U.vm ∧ U.heap = h0) (fun _ _ _ _ _ => True) (fun _ U o U' => ∃ v L, o = .returned v ∧ Qsiz00_0_0 Z r0 ea ka h0 n0 v U'.heap L ∧ FrameEnd U o U' L ({ frames := 1, cells := 0, slots := 0, locals := 20 } : Room).cells ({ frames := 1, cells := 0, slots := 0, locals := 20 } : Room).slots) := by
  refine MetFree.of_bodySF (plainFor_of_name pn_14) hisR ?_
  intro p e s m args below meth c s₁ Bd hml0 hP hK
  obtain ⟨rfl, hZ, hh⟩ := hP
  have hx := Bd.exec
  have hby := Bd.bytes
  have hml : c.maxLocals = 1 := hml0
  have hown : s.vm.findClass "java/util/ArrayDeque" = some m.cls := findClass_of_methodNamed Bd.named
  have hnm := (name_of_methodNamed Bd.named Bd.method).1
  have X0 : Stand p l e ({ frames := 1, cells := 0, slots := 0, locals := 20 } : Room) s m #[(.ref r0)] below meth c s₁ [] 0 0 := Stand.of_body Bd
  have e0 : s₁.heap = h0 := by rw [← hh, Bd.state]; rfl
  have N0 := Fr.nil n0
  refine own_go (B := s₁.setTop (mkF m 0 (LS_R r0) [])) (fun t k => castTop (ef_siz00_0_0 m r0) k) ?_
  refine own_go (B := s₁.setTop (mkF m 1 (LS_R r0) [(.ref r0)])) (fun t k => ?_) ?_
  · show Steps p.tables e below (s₁.setTop (mkF m 0 (LS_R r0) [])) _
    refine XS.aloadN X0.here hx rfl (hb hby d14_0) rfl rfl ?_
    exact k
  obtain ⟨T1, X1, e1, st1⟩ := getF X0 hx hZ hown (host := "") (Or.inl (hw _ (List.mem_of_getElem? (i := 106) rfl))) Via.refl e0 P2 (g := (mkF m 1 (LS_R r0) [(.ref r0)])) rfl rfl (hb hby d14_1)
  refine own_go (B := T1.setTop (mkF m 4 (LS_R r0) [(.int (0 : Int32))])) (fun t k => st1 _ k) ?_
  refine own_go (B := T1.setTop (mkF m 5 (LS_R r0) [(.ref r0), (.int (0 : Int32))])) (fun t k => ?_) ?_
  · show Steps p.tables e below (T1.setTop (mkF m 4 (LS_R r0) [(.int (0 : Int32))])) _
    refine XS.aloadN X1.here hx rfl (hb hby d14_4) rfl rfl ?_
    exact k
  obtain ⟨T2, X2, e2, st2⟩ := getF X1 hx hZ hown (host := "") (Or.inl (hw _ (List.mem_of_getElem? (i := 104) rfl))) Via.refl e1 P1 (g := (mkF m 5 (LS_R r0) [(.ref r0), (.int (0 : Int32))])) rfl rfl (hb hby d14_5)
  refine own_go (B := T2.setTop (mkF m 8 (LS_R r0) [(.int (0 : Int32)), (.int (0 : Int32))])) (fun t k => st2 _ k) ?_
  refine own_go (B := T2.setTop (mkF m 9 (LS_R r0) [(.ref r0), (.int (0 : Int32)), (.int (0 : Int32))])) (fun t k => ?_) ?_
  · show Steps p.tables e below (T2.setTop (mkF m 8 (LS_R r0) [(.int (0 : Int32)), (.int (0 : Int32))])) _
    refine XS.aloadN X2.here hx rfl (hb hby d14_8) rfl rfl ?_
    exact k
  obtain ⟨T3, X3, e3, st3⟩ := getF X2 hx hZ hown (host := "") (Or.inl (hw _ (List.mem_of_getElem? (i := 80) rfl))) Via.refl e2 P0 (g := (mkF m 9 (LS_R r0) [(.ref r0), (.int (0 : Int32)), (.int (0 : Int32))])) rfl rfl (hb hby d14_9)
  refine own_go (B := T3.setTop (mkF m 12 (LS_R r0) [(.ref ea), (.int (0 : Int32)), (.int (0 : Int32))])) (fun t k => st3 _ k) ?_
  obtain ⟨cl4, Ar4, qa4, Sa4, Na4, Ha4, Ga4⟩ := id P3
  refine own_go (B := T3.setTop (mkF m 13 (LS_R r0) [(.int (17 : Int32)), (.int (0 : Int32)), (.int (0 : Int32))])) (fun t k => ?_) ?_
  · show Steps p.tables e below (T3.setTop (mkF m 12 (LS_R r0) [(.ref ea), (.int (0 : Int32)), (.int (0 : Int32))])) _
    refine X3.arraylength hx (by rw [e3]; exact Ar4.1) (State.isArrayOf_alike hZ.alike Ar4.2.1) (g := (mkF m 12 (LS_R r0) [(.ref ea), (.int (0 : Int32)), (.int (0 : Int32))])) rfl rfl (hb hby d14_12) _ ?_
    rw [len_of Sa4 Na4]
    exact k
  obtain ⟨_, _, ⟨T5, L5, k5, n5⟩, -, X5, ⟨Lc5, hQ5, l5, y5, z5⟩, st5⟩ := Jvm.LawKit.callS X3 hx (y := (⟨"java/util/ArrayDeque", "sub", "(III)I"⟩ : MethodName)) hown (mvT hZ (hw _ (List.mem_of_getElem? (i := 118) rfl))) (mvT hZ (hw _ (List.mem_of_getElem? (i := 119) rfl))) (mvT hZ (hw _ (List.mem_of_getElem? (i := 67) rfl))) (mvT hZ (hw _ (List.mem_of_getElem? (i := 120) rfl))) (by decide) (backOf (W := 0) (rmsub l Z a0 hw [] (0 : Int32) (0 : Int32) (17 : Int32) h0 n0 Z0) hZ (hw _ (List.mem_of_getElem? (i := 120) rfl)) (hw _ (List.mem_of_getElem? (i := 67) rfl)) (by decide) (by decide)) (g := (mkF m 13 (LS_R r0) [(.int (17 : Int32)), (.int (0 : Int32)), (.int (0 : Int32))])) rfl (by rw [hml]; rfl) (argsL := [(.int (0 : Int32)), (.int (0 : Int32)), (.int (17 : Int32))]) (rest := []) (lenOf pd__III_I rfl) rfl (by show 2 * 0 + _ ≤ _; exact Nat.le_of_eq rfl) (hb hby d14_13) (fun _ _ => ⟨rfl, e3, (by decide : 0 + 0 ≤ _), (by decide : 0 + 0 ≤ _)⟩)
  dsimp only [Pt.U, Pt.locs, Pt.cells, Pt.slots] at X5 l5 y5 z5 st5 hQ5
  subst l5 y5 z5
  obtain ⟨rfl, N5q, e5⟩ := hQ5
  have N5 := Fr.app N0 N5q
  refine own_go (B := T5.setTop (mkF m 16 (LS_R r0) [(.int (if ((0 : Int32) - (0 : Int32)) < (0 : Int32) then (((0 : Int32) - (0 : Int32)) + (17 : Int32)) else ((0 : Int32) - (0 : Int32))))])) (fun t k => st5 _ k) ?_
  rw [show (if ((0 : Int32) - (0 : Int32)) < (0 : Int32) then (((0 : Int32) - (0 : Int32)) + (17 : Int32)) else ((0 : Int32) - (0 : Int32))) = (0 : Int32) from by decide]
  obtain ⟨fs, hr, hrun, hended, hW, hsame⟩ := X5.leave (v := some (.int (0 : Int32))) (fun h => by rw [Bd.returns] at h; cases h) (BodyLoose.notSynchronized Bd)
  refine ⟨_, _, ?_, hrun, hended, _, _, rfl, ?_, ⟨_, rfl⟩, hW, hsame.mono (by decide) (by decide)⟩
  · show Steps p.tables e below (T5.setTop (mkF m 16 (LS_R r0) [(.int (0 : Int32))])) _
    exact retOut X5 hx Bd.returns rfl (Or.inl ⟨rfl, Or.inl rfl, _, rfl⟩) (hb hby d14_16) hr
  · show Qsiz00_0_0 Z r0 ea ka h0 n0 _ T5.heap _
    rw [e5]
    exact ⟨rfl, N5, rfl⟩
theorem ef_siz10_0_1 (m : MethodId) (r0 : Addr) : entryFrame m #[(.ref r0)] 1 = mkF m 0 #[.val (.ref r0)] [] := by first | (simp [entryFrame, mkF, argsToLocals, Value.category]; done) | rfl
def Qsiz10_0_1 (Z : State) (r0 : Addr) (ea : Addr) (ka : ClassId) (x0 : Addr) (h0 : Heap) (n0 : Nat) (v : Option Value) (h : Heap) (L : List Loc) : Prop := v = some (.int (1 : Int32)) ∧ Fr n0 L ∧ h = h0
set_option maxRecDepth 65536 in
set_option maxHeartbeats 40000000 in
theorem rmsiz10_0_1 (l : Launch) (Z : State) (a0 : Array Value) (hw : ∀ d ∈ tables_1, d.before a0 Z = true) (ws : List Jvm.Cond) (r0 : Addr) (ea : Addr) (ka : ClassId) (x0 : Addr) (h0 : Heap) (n0 : Nat) (Z0 : n0 ≤ h0.size) (E0 : Exa Z h0 r0 "java/util/ArrayDeque") (P0 : Fld Z h0 r0 "java/util/ArrayDeque" "elements" "[Ljava/lang/Object;" (.ref ea)) (P1 : Fld Z h0 r0 "java/util/ArrayDeque" "head" "I" (.int (0 : Int32))) (P2 : Fld Z h0 r0 "java/util/ArrayDeque" "tail" "I" (.int (1 : Int32))) (P3 : Arv Z h0 ea ka (.object "java/lang/Object") (17 : Int32) [(.ref x0), .null, .null, .null, .null, .null, .null, .null, .null, .null, .null, .null, .null, .null, .null, .null, .null] .null) (Ov : Ovr Z ka "java/lang/Object") (g_r0 : n0 ≤ r0) (g_ea : n0 ≤ ea) :
    MetFree l (⟨"java/util/ArrayDeque", "size", "()I"⟩ : MethodName) (head1 (Jvm.Cond.code (⟨"java/util/ArrayDeque", "size", "()I"⟩ : MethodName) jdk_21_method_37_code 1 (some .int) :: ws) ({ frames := 1, cells := 0, slots := 0, locals := 20 } : Room)) (fun a U => a = #[(.ref r0)] ∧ Z.Warmed39 U.vm ∧ U.heap = h0) (fun _ _ _ _ _ => True) (fun _ U o U' => ∃ v L, o = .returned v ∧ Qsiz10_0_1 Z r0 ea ka x0 h0 n0 v U'.heap L ∧ FrameEnd U o U' L ({ frames := 1, cells := 0, slots := 0, locals := 20 } : Room).cells ({ frames := 1, cells := 0, slots := 0, locals := 20 } : Room).slots) := by
  refine MetFree.of_bodySF (plainFor_of_name pn_14) hisR ?_
  intro p e s m args below meth c s₁ Bd hml0 hP hK
  obtain ⟨rfl, hZ, hh⟩ := hP
  have hx := Bd.exec
  have hby := Bd.bytes
  have hml : c.maxLocals = 1 := hml0
  have hown : s.vm.findClass "java/util/ArrayDeque" = some m.cls := findClass_of_methodNamed Bd.named
  have hnm := (name_of_methodNamed Bd.named Bd.method).1
  have X0 : Stand p l e ({ frames := 1, cells := 0, slots := 0, locals := 20 } : Room) s m #[(.ref r0)] below meth c s₁ [] 0 0 := Stand.of_body Bd
  have e0 : s₁.heap = h0 := by rw [← hh, Bd.state]; rfl
  have N0 := Fr.nil n0
  refine own_go (B := s₁.setTop (mkF m 0 (LS_R r0) [])) (fun t k => castTop (ef_siz10_0_1 m r0) k) ?_
  refine own_go (B := s₁.setTop (mkF m 1 (LS_R r0) [(.ref r0)])) (fun t k => ?_) ?_
  · show Steps p.tables e below (s₁.setTop (mkF m 0 (LS_R r0) [])) _
    refine XS.aloadN X0.here hx rfl (hb hby d14_0) rfl rfl ?_
    exact k
  obtain ⟨T1, X1, e1, st1⟩ := getF X0 hx hZ hown (host := "") (Or.inl (hw _ (List.mem_of_getElem? (i := 106) rfl))) Via.refl e0 P2 (g := (mkF m 1 (LS_R r0) [(.ref r0)])) rfl rfl (hb hby d14_1)
  refine own_go (B := T1.setTop (mkF m 4 (LS_R r0) [(.int (1 : Int32))])) (fun t k => st1 _ k) ?_
  refine own_go (B := T1.setTop (mkF m 5 (LS_R r0) [(.ref r0), (.int (1 : Int32))])) (fun t k => ?_) ?_
  · show Steps p.tables e below (T1.setTop (mkF m 4 (LS_R r0) [(.int (1 : Int32))])) _
    refine XS.aloadN X1.here hx rfl (hb hby d14_4) rfl rfl ?_
    exact k
  obtain ⟨T2, X2, e2, st2⟩ := getF X1 hx hZ hown (host := "") (Or.inl (hw _ (List.mem_of_getElem? (i := 104) rfl))) Via.refl e1 P1 (g := (mkF m 5 (LS_R r0) [(.ref r0), (.int (1 : Int32))])) rfl rfl (hb hby d14_5)
  refine own_go (B := T2.setTop (mkF m 8 (LS_R r0) [(.int (0 : Int32)), (.int (1 : Int32))])) (fun t k => st2 _ k) ?_
  refine own_go (B := T2.setTop (mkF m 9 (LS_R r0) [(.ref r0), (.int (0 : Int32)), (.int (1 : Int32))])) (fun t k => ?_) ?_
  · show Steps p.tables e below (T2.setTop (mkF m 8 (LS_R r0) [(.int (0 : Int32)), (.int (1 : Int32))])) _
    refine XS.aloadN X2.here hx rfl (hb hby d14_8) rfl rfl ?_
    exact k
  obtain ⟨T3, X3, e3, st3⟩ := getF X2 hx hZ hown (host := "") (Or.inl (hw _ (List.mem_of_getElem? (i := 80) rfl))) Via.refl e2 P0 (g := (mkF m 9 (LS_R r0) [(.ref r0), (.int (0 : Int32)), (.int (1 : Int32))])) rfl rfl (hb hby d14_9)
  refine own_go (B := T3.setTop (mkF m 12 (LS_R r0) [(.ref ea), (.int (0 : Int32)), (.int (1 : Int32))])) (fun t k => st3 _ k) ?_
  obtain ⟨cl4, Ar4, qa4, Sa4, Na4, Ha4, Ga4⟩ := id P3
  refine own_go (B := T3.setTop (mkF m 13 (LS_R r0) [(.int (17 : Int32)), (.int (0 : Int32)), (.int (1 : Int32))])) (fun t k => ?_) ?_
  · show Steps p.tables e below (T3.setTop (mkF m 12 (LS_R r0) [(.ref ea), (.int (0 : Int32)), (.int (1 : Int32))])) _
    refine X3.arraylength hx (by rw [e3]; exact Ar4.1) (State.isArrayOf_alike hZ.alike Ar4.2.1) (g := (mkF m 12 (LS_R r0) [(.ref ea), (.int (0 : Int32)), (.int (1 : Int32))])) rfl rfl (hb hby d14_12) _ ?_
    rw [len_of Sa4 Na4]
    exact k
  obtain ⟨_, _, ⟨T5, L5, k5, n5⟩, -, X5, ⟨Lc5, hQ5, l5, y5, z5⟩, st5⟩ := Jvm.LawKit.callS X3 hx (y := (⟨"java/util/ArrayDeque", "sub", "(III)I"⟩ : MethodName)) hown (mvT hZ (hw _ (List.mem_of_getElem? (i := 118) rfl))) (mvT hZ (hw _ (List.mem_of_getElem? (i := 119) rfl))) (mvT hZ (hw _ (List.mem_of_getElem? (i := 67) rfl))) (mvT hZ (hw _ (List.mem_of_getElem? (i := 120) rfl))) (by decide) (backOf (W := 0) (rmsub l Z a0 hw [] (1 : Int32) (0 : Int32) (17 : Int32) h0 n0 Z0) hZ (hw _ (List.mem_of_getElem? (i := 120) rfl)) (hw _ (List.mem_of_getElem? (i := 67) rfl)) (by decide) (by decide)) (g := (mkF m 13 (LS_R r0) [(.int (17 : Int32)), (.int (0 : Int32)), (.int (1 : Int32))])) rfl (by rw [hml]; rfl) (argsL := [(.int (1 : Int32)), (.int (0 : Int32)), (.int (17 : Int32))]) (rest := []) (lenOf pd__III_I rfl) rfl (by show 2 * 0 + _ ≤ _; exact Nat.le_of_eq rfl) (hb hby d14_13) (fun _ _ => ⟨rfl, e3, (by decide : 0 + 0 ≤ _), (by decide : 0 + 0 ≤ _)⟩)
  dsimp only [Pt.U, Pt.locs, Pt.cells, Pt.slots] at X5 l5 y5 z5 st5 hQ5
  subst l5 y5 z5
  obtain ⟨rfl, N5q, e5⟩ := hQ5
  have N5 := Fr.app N0 N5q
  refine own_go (B := T5.setTop (mkF m 16 (LS_R r0) [(.int (if ((1 : Int32) - (0 : Int32)) < (0 : Int32) then (((1 : Int32) - (0 : Int32)) + (17 : Int32)) else ((1 : Int32) - (0 : Int32))))])) (fun t k => st5 _ k) ?_
  rw [show (if ((1 : Int32) - (0 : Int32)) < (0 : Int32) then (((1 : Int32) - (0 : Int32)) + (17 : Int32)) else ((1 : Int32) - (0 : Int32))) = (1 : Int32) from by decide]
  obtain ⟨fs, hr, hrun, hended, hW, hsame⟩ := X5.leave (v := some (.int (1 : Int32))) (fun h => by rw [Bd.returns] at h; cases h) (BodyLoose.notSynchronized Bd)
  refine ⟨_, _, ?_, hrun, hended, _, _, rfl, ?_, ⟨_, rfl⟩, hW, hsame.mono (by decide) (by decide)⟩
  · show Steps p.tables e below (T5.setTop (mkF m 16 (LS_R r0) [(.int (1 : Int32))])) _
    exact retOut X5 hx Bd.returns rfl (Or.inl ⟨rfl, Or.inl rfl, _, rfl⟩) (hb hby d14_16) hr
  · show Qsiz10_0_1 Z r0 ea ka x0 h0 n0 _ T5.heap _
    rw [e5]
    exact ⟨rfl, N5, rfl⟩
theorem ef_siz00_1_1 (m : MethodId) (r0 : Addr) : entryFrame m #[(.ref r0)] 1 = mkF m 0 #[.val (.ref r0)] [] := by first | (simp [entryFrame, mkF, argsToLocals, Value.category]; done) | rfl
def Qsiz00_1_1 (Z : State) (r0 : Addr) (ea : Addr) (ka : ClassId) (h0 : Heap) (n0 : Nat) (v : Option Value) (h : Heap) (L : List Loc) : Prop := v = some (.int (0 : Int32)) ∧ Fr n0 L ∧ h = h0
set_option maxRecDepth 65536 in
set_option maxHeartbeats 40000000 in
theorem rmsiz00_1_1 (l : Launch) (Z : State) (a0 : Array Value) (hw : ∀ d ∈ tables_1, d.before a0 Z = true) (ws : List Jvm.Cond) (r0 : Addr) (ea : Addr) (ka : ClassId) (h0 : Heap) (n0 : Nat) (Z0 : n0 ≤ h0.size) (E0 : Exa Z h0 r0 "java/util/ArrayDeque") (P0 : Fld Z h0 r0 "java/util/ArrayDeque" "elements" "[Ljava/lang/Object;" (.ref ea)) (P1 : Fld Z h0 r0 "java/util/ArrayDeque" "head" "I" (.int (1 : Int32))) (P2 : Fld Z h0 r0 "java/util/ArrayDeque" "tail" "I" (.int (1 : Int32))) (P3 : Arv Z h0 ea ka (.object "java/lang/Object") (17 : Int32) [.null, .null, .null, .null, .null, .null, .null, .null, .null, .null, .null, .null, .null, .null, .null, .null, .null] .null) (Ov : Ovr Z ka "java/lang/Object") (g_r0 : n0 ≤ r0) (g_ea : n0 ≤ ea) :
    MetFree l (⟨"java/util/ArrayDeque", "size", "()I"⟩ : MethodName) (head1 (Jvm.Cond.code (⟨"java/util/ArrayDeque", "size", "()I"⟩ : MethodName) jdk_21_method_37_code 1 (some .int) :: ws) ({ frames := 1, cells := 0, slots := 0, locals := 20 } : Room)) (fun a U => a = #[(.ref r0)] ∧ Z.Warmed39 U.vm ∧ U.heap = h0) (fun _ _ _ _ _ => True) (fun _ U o U' => ∃ v L, o = .returned v ∧ Qsiz00_1_1 Z r0 ea ka h0 n0 v U'.heap L ∧ FrameEnd U o U' L ({ frames := 1, cells := 0, slots := 0, locals := 20 } : Room).cells ({ frames := 1, cells := 0, slots := 0, locals := 20 } : Room).slots) := by
  refine MetFree.of_bodySF (plainFor_of_name pn_14) hisR ?_
  intro p e s m args below meth c s₁ Bd hml0 hP hK
  obtain ⟨rfl, hZ, hh⟩ := hP
  have hx := Bd.exec
  have hby := Bd.bytes
  have hml : c.maxLocals = 1 := hml0
  have hown : s.vm.findClass "java/util/ArrayDeque" = some m.cls := findClass_of_methodNamed Bd.named
  have hnm := (name_of_methodNamed Bd.named Bd.method).1
  have X0 : Stand p l e ({ frames := 1, cells := 0, slots := 0, locals := 20 } : Room) s m #[(.ref r0)] below meth c s₁ [] 0 0 := Stand.of_body Bd
  have e0 : s₁.heap = h0 := by rw [← hh, Bd.state]; rfl
  have N0 := Fr.nil n0
  refine own_go (B := s₁.setTop (mkF m 0 (LS_R r0) [])) (fun t k => castTop (ef_siz00_1_1 m r0) k) ?_
  refine own_go (B := s₁.setTop (mkF m 1 (LS_R r0) [(.ref r0)])) (fun t k => ?_) ?_
  · show Steps p.tables e below (s₁.setTop (mkF m 0 (LS_R r0) [])) _
    refine XS.aloadN X0.here hx rfl (hb hby d14_0) rfl rfl ?_
    exact k
  obtain ⟨T1, X1, e1, st1⟩ := getF X0 hx hZ hown (host := "") (Or.inl (hw _ (List.mem_of_getElem? (i := 106) rfl))) Via.refl e0 P2 (g := (mkF m 1 (LS_R r0) [(.ref r0)])) rfl rfl (hb hby d14_1)
  refine own_go (B := T1.setTop (mkF m 4 (LS_R r0) [(.int (1 : Int32))])) (fun t k => st1 _ k) ?_
  refine own_go (B := T1.setTop (mkF m 5 (LS_R r0) [(.ref r0), (.int (1 : Int32))])) (fun t k => ?_) ?_
  · show Steps p.tables e below (T1.setTop (mkF m 4 (LS_R r0) [(.int (1 : Int32))])) _
    refine XS.aloadN X1.here hx rfl (hb hby d14_4) rfl rfl ?_
    exact k
  obtain ⟨T2, X2, e2, st2⟩ := getF X1 hx hZ hown (host := "") (Or.inl (hw _ (List.mem_of_getElem? (i := 104) rfl))) Via.refl e1 P1 (g := (mkF m 5 (LS_R r0) [(.ref r0), (.int (1 : Int32))])) rfl rfl (hb hby d14_5)
  refine own_go (B := T2.setTop (mkF m 8 (LS_R r0) [(.int (1 : Int32)), (.int (1 : Int32))])) (fun t k => st2 _ k) ?_
  refine own_go (B := T2.setTop (mkF m 9 (LS_R r0) [(.ref r0), (.int (1 : Int32)), (.int (1 : Int32))])) (fun t k => ?_) ?_
  · show Steps p.tables e below (T2.setTop (mkF m 8 (LS_R r0) [(.int (1 : Int32)), (.int (1 : Int32))])) _
    refine XS.aloadN X2.here hx rfl (hb hby d14_8) rfl rfl ?_
    exact k
  obtain ⟨T3, X3, e3, st3⟩ := getF X2 hx hZ hown (host := "") (Or.inl (hw _ (List.mem_of_getElem? (i := 80) rfl))) Via.refl e2 P0 (g := (mkF m 9 (LS_R r0) [(.ref r0), (.int (1 : Int32)), (.int (1 : Int32))])) rfl rfl (hb hby d14_9)
  refine own_go (B := T3.setTop (mkF m 12 (LS_R r0) [(.ref ea), (.int (1 : Int32)), (.int (1 : Int32))])) (fun t k => st3 _ k) ?_
  obtain ⟨cl4, Ar4, qa4, Sa4, Na4, Ha4, Ga4⟩ := id P3
  refine own_go (B := T3.setTop (mkF m 13 (LS_R r0) [(.int (17 : Int32)), (.int (1 : Int32)), (.int (1 : Int32))])) (fun t k => ?_) ?_
  · show Steps p.tables e below (T3.setTop (mkF m 12 (LS_R r0) [(.ref ea), (.int (1 : Int32)), (.int (1 : Int32))])) _
    refine X3.arraylength hx (by rw [e3]; exact Ar4.1) (State.isArrayOf_alike hZ.alike Ar4.2.1) (g := (mkF m 12 (LS_R r0) [(.ref ea), (.int (1 : Int32)), (.int (1 : Int32))])) rfl rfl (hb hby d14_12) _ ?_
    rw [len_of Sa4 Na4]
    exact k
  obtain ⟨_, _, ⟨T5, L5, k5, n5⟩, -, X5, ⟨Lc5, hQ5, l5, y5, z5⟩, st5⟩ := Jvm.LawKit.callS X3 hx (y := (⟨"java/util/ArrayDeque", "sub", "(III)I"⟩ : MethodName)) hown (mvT hZ (hw _ (List.mem_of_getElem? (i := 118) rfl))) (mvT hZ (hw _ (List.mem_of_getElem? (i := 119) rfl))) (mvT hZ (hw _ (List.mem_of_getElem? (i := 67) rfl))) (mvT hZ (hw _ (List.mem_of_getElem? (i := 120) rfl))) (by decide) (backOf (W := 0) (rmsub l Z a0 hw [] (1 : Int32) (1 : Int32) (17 : Int32) h0 n0 Z0) hZ (hw _ (List.mem_of_getElem? (i := 120) rfl)) (hw _ (List.mem_of_getElem? (i := 67) rfl)) (by decide) (by decide)) (g := (mkF m 13 (LS_R r0) [(.int (17 : Int32)), (.int (1 : Int32)), (.int (1 : Int32))])) rfl (by rw [hml]; rfl) (argsL := [(.int (1 : Int32)), (.int (1 : Int32)), (.int (17 : Int32))]) (rest := []) (lenOf pd__III_I rfl) rfl (by show 2 * 0 + _ ≤ _; exact Nat.le_of_eq rfl) (hb hby d14_13) (fun _ _ => ⟨rfl, e3, (by decide : 0 + 0 ≤ _), (by decide : 0 + 0 ≤ _)⟩)
  dsimp only [Pt.U, Pt.locs, Pt.cells, Pt.slots] at X5 l5 y5 z5 st5 hQ5
  subst l5 y5 z5
  obtain ⟨rfl, N5q, e5⟩ := hQ5
  have N5 := Fr.app N0 N5q
  refine own_go (B := T5.setTop (mkF m 16 (LS_R r0) [(.int (if ((1 : Int32) - (1 : Int32)) < (0 : Int32) then (((1 : Int32) - (1 : Int32)) + (17 : Int32)) else ((1 : Int32) - (1 : Int32))))])) (fun t k => st5 _ k) ?_
  rw [show (if ((1 : Int32) - (1 : Int32)) < (0 : Int32) then (((1 : Int32) - (1 : Int32)) + (17 : Int32)) else ((1 : Int32) - (1 : Int32))) = (0 : Int32) from by decide]
  obtain ⟨fs, hr, hrun, hended, hW, hsame⟩ := X5.leave (v := some (.int (0 : Int32))) (fun h => by rw [Bd.returns] at h; cases h) (BodyLoose.notSynchronized Bd)
  refine ⟨_, _, ?_, hrun, hended, _, _, rfl, ?_, ⟨_, rfl⟩, hW, hsame.mono (by decide) (by decide)⟩
  · show Steps p.tables e below (T5.setTop (mkF m 16 (LS_R r0) [(.int (0 : Int32))])) _
    exact retOut X5 hx Bd.returns rfl (Or.inl ⟨rfl, Or.inl rfl, _, rfl⟩) (hb hby d14_16) hr
  · show Qsiz00_1_1 Z r0 ea ka h0 n0 _ T5.heap _
    rw [e5]
    exact ⟨rfl, N5, rfl⟩
theorem ef_siz11_0_2 (m : MethodId) (r0 : Addr) : entryFrame m #[(.ref r0)] 1 = mkF m 0 #[.val (.ref r0)] [] := by first | (simp [entryFrame, mkF, argsToLocals, Value.category]; done) | rfl
def Qsiz11_0_2 (Z : State) (r0 : Addr) (ea : Addr) (ka : ClassId) (x0 x1 : Addr) (h0 : Heap) (n0 : Nat) (v : Option Value) (h : Heap) (L : List Loc) : Prop := v = some (.int (2 : Int32)) ∧ Fr n0 L ∧ h = h0
set_option maxRecDepth 65536 in
set_option maxHeartbeats 40000000 in
theorem rmsiz11_0_2 (l : Launch) (Z : State) (a0 : Array Value) (hw : ∀ d ∈ tables_1, d.before a0 Z = true) (ws : List Jvm.Cond) (r0 : Addr) (ea : Addr) (ka : ClassId) (x0 x1 : Addr) (h0 : Heap) (n0 : Nat) (Z0 : n0 ≤ h0.size) (E0 : Exa Z h0 r0 "java/util/ArrayDeque") (P0 : Fld Z h0 r0 "java/util/ArrayDeque" "elements" "[Ljava/lang/Object;" (.ref ea)) (P1 : Fld Z h0 r0 "java/util/ArrayDeque" "head" "I" (.int (0 : Int32))) (P2 : Fld Z h0 r0 "java/util/ArrayDeque" "tail" "I" (.int (2 : Int32))) (P3 : Arv Z h0 ea ka (.object "java/lang/Object") (17 : Int32) [(.ref x0), (.ref x1), .null, .null, .null, .null, .null, .null, .null, .null, .null, .null, .null, .null, .null, .null, .null] .null) (Ov : Ovr Z ka "java/lang/Object") (g_r0 : n0 ≤ r0) (g_ea : n0 ≤ ea) :
    MetFree l (⟨"java/util/ArrayDeque", "size", "()I"⟩ : MethodName) (head1 (Jvm.Cond.code (⟨"java/util/ArrayDeque", "size", "()I"⟩ : MethodName) jdk_21_method_37_code 1 (some .int) :: ws) ({ frames := 1, cells := 0, slots := 0, locals := 20 } : Room)) (fun a U => a = #[(.ref r0)] ∧ Z.Warmed39 U.vm ∧ U.heap = h0) (fun _ _ _ _ _ => True) (fun _ U o U' => ∃ v L, o = .returned v ∧ Qsiz11_0_2 Z r0 ea ka x0 x1 h0 n0 v U'.heap L ∧ FrameEnd U o U' L ({ frames := 1, cells := 0, slots := 0, locals := 20 } : Room).cells ({ frames := 1, cells := 0, slots := 0, locals := 20 } : Room).slots) := by
  refine MetFree.of_bodySF (plainFor_of_name pn_14) hisR ?_
  intro p e s m args below meth c s₁ Bd hml0 hP hK
  obtain ⟨rfl, hZ, hh⟩ := hP
  have hx := Bd.exec
  have hby := Bd.bytes
  have hml : c.maxLocals = 1 := hml0
  have hown : s.vm.findClass "java/util/ArrayDeque" = some m.cls := findClass_of_methodNamed Bd.named
  have hnm := (name_of_methodNamed Bd.named Bd.method).1
  have X0 : Stand p l e ({ frames := 1, cells := 0, slots := 0, locals := 20 } : Room) s m #[(.ref r0)] below meth c s₁ [] 0 0 := Stand.of_body Bd
  have e0 : s₁.heap = h0 := by rw [← hh, Bd.state]; rfl
  have N0 := Fr.nil n0
  refine own_go (B := s₁.setTop (mkF m 0 (LS_R r0) [])) (fun t k => castTop (ef_siz11_0_2 m r0) k) ?_
  refine own_go (B := s₁.setTop (mkF m 1 (LS_R r0) [(.ref r0)])) (fun t k => ?_) ?_
  · show Steps p.tables e below (s₁.setTop (mkF m 0 (LS_R r0) [])) _
    refine XS.aloadN X0.here hx rfl (hb hby d14_0) rfl rfl ?_
    exact k
  obtain ⟨T1, X1, e1, st1⟩ := getF X0 hx hZ hown (host := "") (Or.inl (hw _ (List.mem_of_getElem? (i := 106) rfl))) Via.refl e0 P2 (g := (mkF m 1 (LS_R r0) [(.ref r0)])) rfl rfl (hb hby d14_1)
  refine own_go (B := T1.setTop (mkF m 4 (LS_R r0) [(.int (2 : Int32))])) (fun t k => st1 _ k) ?_
  refine own_go (B := T1.setTop (mkF m 5 (LS_R r0) [(.ref r0), (.int (2 : Int32))])) (fun t k => ?_) ?_
  · show Steps p.tables e below (T1.setTop (mkF m 4 (LS_R r0) [(.int (2 : Int32))])) _
    refine XS.aloadN X1.here hx rfl (hb hby d14_4) rfl rfl ?_
    exact k
  obtain ⟨T2, X2, e2, st2⟩ := getF X1 hx hZ hown (host := "") (Or.inl (hw _ (List.mem_of_getElem? (i := 104) rfl))) Via.refl e1 P1 (g := (mkF m 5 (LS_R r0) [(.ref r0), (.int (2 : Int32))])) rfl rfl (hb hby d14_5)
  refine own_go (B := T2.setTop (mkF m 8 (LS_R r0) [(.int (0 : Int32)), (.int (2 : Int32))])) (fun t k => st2 _ k) ?_
  refine own_go (B := T2.setTop (mkF m 9 (LS_R r0) [(.ref r0), (.int (0 : Int32)), (.int (2 : Int32))])) (fun t k => ?_) ?_
  · show Steps p.tables e below (T2.setTop (mkF m 8 (LS_R r0) [(.int (0 : Int32)), (.int (2 : Int32))])) _
    refine XS.aloadN X2.here hx rfl (hb hby d14_8) rfl rfl ?_
    exact k
  obtain ⟨T3, X3, e3, st3⟩ := getF X2 hx hZ hown (host := "") (Or.inl (hw _ (List.mem_of_getElem? (i := 80) rfl))) Via.refl e2 P0 (g := (mkF m 9 (LS_R r0) [(.ref r0), (.int (0 : Int32)), (.int (2 : Int32))])) rfl rfl (hb hby d14_9)
  refine own_go (B := T3.setTop (mkF m 12 (LS_R r0) [(.ref ea), (.int (0 : Int32)), (.int (2 : Int32))])) (fun t k => st3 _ k) ?_
  obtain ⟨cl4, Ar4, qa4, Sa4, Na4, Ha4, Ga4⟩ := id P3
  refine own_go (B := T3.setTop (mkF m 13 (LS_R r0) [(.int (17 : Int32)), (.int (0 : Int32)), (.int (2 : Int32))])) (fun t k => ?_) ?_
  · show Steps p.tables e below (T3.setTop (mkF m 12 (LS_R r0) [(.ref ea), (.int (0 : Int32)), (.int (2 : Int32))])) _
    refine X3.arraylength hx (by rw [e3]; exact Ar4.1) (State.isArrayOf_alike hZ.alike Ar4.2.1) (g := (mkF m 12 (LS_R r0) [(.ref ea), (.int (0 : Int32)), (.int (2 : Int32))])) rfl rfl (hb hby d14_12) _ ?_
    rw [len_of Sa4 Na4]
    exact k
  obtain ⟨_, _, ⟨T5, L5, k5, n5⟩, -, X5, ⟨Lc5, hQ5, l5, y5, z5⟩, st5⟩ := Jvm.LawKit.callS X3 hx (y := (⟨"java/util/ArrayDeque", "sub", "(III)I"⟩ : MethodName)) hown (mvT hZ (hw _ (List.mem_of_getElem? (i := 118) rfl))) (mvT hZ (hw _ (List.mem_of_getElem? (i := 119) rfl))) (mvT hZ (hw _ (List.mem_of_getElem? (i := 67) rfl))) (mvT hZ (hw _ (List.mem_of_getElem? (i := 120) rfl))) (by decide) (backOf (W := 0) (rmsub l Z a0 hw [] (2 : Int32) (0 : Int32) (17 : Int32) h0 n0 Z0) hZ (hw _ (List.mem_of_getElem? (i := 120) rfl)) (hw _ (List.mem_of_getElem? (i := 67) rfl)) (by decide) (by decide)) (g := (mkF m 13 (LS_R r0) [(.int (17 : Int32)), (.int (0 : Int32)), (.int (2 : Int32))])) rfl (by rw [hml]; rfl) (argsL := [(.int (2 : Int32)), (.int (0 : Int32)), (.int (17 : Int32))]) (rest := []) (lenOf pd__III_I rfl) rfl (by show 2 * 0 + _ ≤ _; exact Nat.le_of_eq rfl) (hb hby d14_13) (fun _ _ => ⟨rfl, e3, (by decide : 0 + 0 ≤ _), (by decide : 0 + 0 ≤ _)⟩)
  dsimp only [Pt.U, Pt.locs, Pt.cells, Pt.slots] at X5 l5 y5 z5 st5 hQ5
  subst l5 y5 z5
  obtain ⟨rfl, N5q, e5⟩ := hQ5
  have N5 := Fr.app N0 N5q
  refine own_go (B := T5.setTop (mkF m 16 (LS_R r0) [(.int (if ((2 : Int32) - (0 : Int32)) < (0 : Int32) then (((2 : Int32) - (0 : Int32)) + (17 : Int32)) else ((2 : Int32) - (0 : Int32))))])) (fun t k => st5 _ k) ?_
  rw [show (if ((2 : Int32) - (0 : Int32)) < (0 : Int32) then (((2 : Int32) - (0 : Int32)) + (17 : Int32)) else ((2 : Int32) - (0 : Int32))) = (2 : Int32) from by decide]
  obtain ⟨fs, hr, hrun, hended, hW, hsame⟩ := X5.leave (v := some (.int (2 : Int32))) (fun h => by rw [Bd.returns] at h; cases h) (BodyLoose.notSynchronized Bd)
  refine ⟨_, _, ?_, hrun, hended, _, _, rfl, ?_, ⟨_, rfl⟩, hW, hsame.mono (by decide) (by decide)⟩
  · show Steps p.tables e below (T5.setTop (mkF m 16 (LS_R r0) [(.int (2 : Int32))])) _
    exact retOut X5 hx Bd.returns rfl (Or.inl ⟨rfl, Or.inl rfl, _, rfl⟩) (hb hby d14_16) hr
  · show Qsiz11_0_2 Z r0 ea ka x0 x1 h0 n0 _ T5.heap _
    rw [e5]
    exact ⟨rfl, N5, rfl⟩
theorem ef_siz01_1_2 (m : MethodId) (r0 : Addr) : entryFrame m #[(.ref r0)] 1 = mkF m 0 #[.val (.ref r0)] [] := by first | (simp [entryFrame, mkF, argsToLocals, Value.category]; done) | rfl
def Qsiz01_1_2 (Z : State) (r0 : Addr) (ea : Addr) (ka : ClassId) (x1 : Addr) (h0 : Heap) (n0 : Nat) (v : Option Value) (h : Heap) (L : List Loc) : Prop := v = some (.int (1 : Int32)) ∧ Fr n0 L ∧ h = h0
set_option maxRecDepth 65536 in
set_option maxHeartbeats 40000000 in
theorem rmsiz01_1_2 (l : Launch) (Z : State) (a0 : Array Value) (hw : ∀ d ∈ tables_1, d.before a0 Z = true) (ws : List Jvm.Cond) (r0 : Addr) (ea : Addr) (ka : ClassId) (x1 : Addr) (h0 : Heap) (n0 : Nat) (Z0 : n0 ≤ h0.size) (E0 : Exa Z h0 r0 "java/util/ArrayDeque") (P0 : Fld Z h0 r0 "java/util/ArrayDeque" "elements" "[Ljava/lang/Object;" (.ref ea)) (P1 : Fld Z h0 r0 "java/util/ArrayDeque" "head" "I" (.int (1 : Int32))) (P2 : Fld Z h0 r0 "java/util/ArrayDeque" "tail" "I" (.int (2 : Int32))) (P3 : Arv Z h0 ea ka (.object "java/lang/Object") (17 : Int32) [.null, (.ref x1), .null, .null, .null, .null, .null, .null, .null, .null, .null, .null, .null, .null, .null, .null, .null] .null) (Ov : Ovr Z ka "java/lang/Object") (g_r0 : n0 ≤ r0) (g_ea : n0 ≤ ea) :
    MetFree l (⟨"java/util/ArrayDeque", "size", "()I"⟩ : MethodName) (head1 (Jvm.Cond.code (⟨"java/util/ArrayDeque", "size", "()I"⟩ : MethodName) jdk_21_method_37_code 1 (some .int) :: ws) ({ frames := 1, cells := 0, slots := 0, locals := 20 } : Room)) (fun a U => a = #[(.ref r0)] ∧ Z.Warmed39 U.vm ∧ U.heap = h0) (fun _ _ _ _ _ => True) (fun _ U o U' => ∃ v L, o = .returned v ∧ Qsiz01_1_2 Z r0 ea ka x1 h0 n0 v U'.heap L ∧ FrameEnd U o U' L ({ frames := 1, cells := 0, slots := 0, locals := 20 } : Room).cells ({ frames := 1, cells := 0, slots := 0, locals := 20 } : Room).slots) := by
  refine MetFree.of_bodySF (plainFor_of_name pn_14) hisR ?_
  intro p e s m args below meth c s₁ Bd hml0 hP hK
  obtain ⟨rfl, hZ, hh⟩ := hP
  have hx := Bd.exec
  have hby := Bd.bytes
  have hml : c.maxLocals = 1 := hml0
  have hown : s.vm.findClass "java/util/ArrayDeque" = some m.cls := findClass_of_methodNamed Bd.named
  have hnm := (name_of_methodNamed Bd.named Bd.method).1
  have X0 : Stand p l e ({ frames := 1, cells := 0, slots := 0, locals := 20 } : Room) s m #[(.ref r0)] below meth c s₁ [] 0 0 := Stand.of_body Bd
  have e0 : s₁.heap = h0 := by rw [← hh, Bd.state]; rfl
  have N0 := Fr.nil n0
  refine own_go (B := s₁.setTop (mkF m 0 (LS_R r0) [])) (fun t k => castTop (ef_siz01_1_2 m r0) k) ?_
  refine own_go (B := s₁.setTop (mkF m 1 (LS_R r0) [(.ref r0)])) (fun t k => ?_) ?_
  · show Steps p.tables e below (s₁.setTop (mkF m 0 (LS_R r0) [])) _
    refine XS.aloadN X0.here hx rfl (hb hby d14_0) rfl rfl ?_
    exact k
  obtain ⟨T1, X1, e1, st1⟩ := getF X0 hx hZ hown (host := "") (Or.inl (hw _ (List.mem_of_getElem? (i := 106) rfl))) Via.refl e0 P2 (g := (mkF m 1 (LS_R r0) [(.ref r0)])) rfl rfl (hb hby d14_1)
  refine own_go (B := T1.setTop (mkF m 4 (LS_R r0) [(.int (2 : Int32))])) (fun t k => st1 _ k) ?_
  refine own_go (B := T1.setTop (mkF m 5 (LS_R r0) [(.ref r0), (.int (2 : Int32))])) (fun t k => ?_) ?_
  · show Steps p.tables e below (T1.setTop (mkF m 4 (LS_R r0) [(.int (2 : Int32))])) _
    refine XS.aloadN X1.here hx rfl (hb hby d14_4) rfl rfl ?_
    exact k
  obtain ⟨T2, X2, e2, st2⟩ := getF X1 hx hZ hown (host := "") (Or.inl (hw _ (List.mem_of_getElem? (i := 104) rfl))) Via.refl e1 P1 (g := (mkF m 5 (LS_R r0) [(.ref r0), (.int (2 : Int32))])) rfl rfl (hb hby d14_5)
  refine own_go (B := T2.setTop (mkF m 8 (LS_R r0) [(.int (1 : Int32)), (.int (2 : Int32))])) (fun t k => st2 _ k) ?_
  refine own_go (B := T2.setTop (mkF m 9 (LS_R r0) [(.ref r0), (.int (1 : Int32)), (.int (2 : Int32))])) (fun t k => ?_) ?_
  · show Steps p.tables e below (T2.setTop (mkF m 8 (LS_R r0) [(.int (1 : Int32)), (.int (2 : Int32))])) _
    refine XS.aloadN X2.here hx rfl (hb hby d14_8) rfl rfl ?_
    exact k
  obtain ⟨T3, X3, e3, st3⟩ := getF X2 hx hZ hown (host := "") (Or.inl (hw _ (List.mem_of_getElem? (i := 80) rfl))) Via.refl e2 P0 (g := (mkF m 9 (LS_R r0) [(.ref r0), (.int (1 : Int32)), (.int (2 : Int32))])) rfl rfl (hb hby d14_9)
  refine own_go (B := T3.setTop (mkF m 12 (LS_R r0) [(.ref ea), (.int (1 : Int32)), (.int (2 : Int32))])) (fun t k => st3 _ k) ?_
  obtain ⟨cl4, Ar4, qa4, Sa4, Na4, Ha4, Ga4⟩ := id P3
  refine own_go (B := T3.setTop (mkF m 13 (LS_R r0) [(.int (17 : Int32)), (.int (1 : Int32)), (.int (2 : Int32))])) (fun t k => ?_) ?_
  · show Steps p.tables e below (T3.setTop (mkF m 12 (LS_R r0) [(.ref ea), (.int (1 : Int32)), (.int (2 : Int32))])) _
    refine X3.arraylength hx (by rw [e3]; exact Ar4.1) (State.isArrayOf_alike hZ.alike Ar4.2.1) (g := (mkF m 12 (LS_R r0) [(.ref ea), (.int (1 : Int32)), (.int (2 : Int32))])) rfl rfl (hb hby d14_12) _ ?_
    rw [len_of Sa4 Na4]
    exact k
  obtain ⟨_, _, ⟨T5, L5, k5, n5⟩, -, X5, ⟨Lc5, hQ5, l5, y5, z5⟩, st5⟩ := Jvm.LawKit.callS X3 hx (y := (⟨"java/util/ArrayDeque", "sub", "(III)I"⟩ : MethodName)) hown (mvT hZ (hw _ (List.mem_of_getElem? (i := 118) rfl))) (mvT hZ (hw _ (List.mem_of_getElem? (i := 119) rfl))) (mvT hZ (hw _ (List.mem_of_getElem? (i := 67) rfl))) (mvT hZ (hw _ (List.mem_of_getElem? (i := 120) rfl))) (by decide) (backOf (W := 0) (rmsub l Z a0 hw [] (2 : Int32) (1 : Int32) (17 : Int32) h0 n0 Z0) hZ (hw _ (List.mem_of_getElem? (i := 120) rfl)) (hw _ (List.mem_of_getElem? (i := 67) rfl)) (by decide) (by decide)) (g := (mkF m 13 (LS_R r0) [(.int (17 : Int32)), (.int (1 : Int32)), (.int (2 : Int32))])) rfl (by rw [hml]; rfl) (argsL := [(.int (2 : Int32)), (.int (1 : Int32)), (.int (17 : Int32))]) (rest := []) (lenOf pd__III_I rfl) rfl (by show 2 * 0 + _ ≤ _; exact Nat.le_of_eq rfl) (hb hby d14_13) (fun _ _ => ⟨rfl, e3, (by decide : 0 + 0 ≤ _), (by decide : 0 + 0 ≤ _)⟩)
  dsimp only [Pt.U, Pt.locs, Pt.cells, Pt.slots] at X5 l5 y5 z5 st5 hQ5
  subst l5 y5 z5
  obtain ⟨rfl, N5q, e5⟩ := hQ5
  have N5 := Fr.app N0 N5q
  refine own_go (B := T5.setTop (mkF m 16 (LS_R r0) [(.int (if ((2 : Int32) - (1 : Int32)) < (0 : Int32) then (((2 : Int32) - (1 : Int32)) + (17 : Int32)) else ((2 : Int32) - (1 : Int32))))])) (fun t k => st5 _ k) ?_
  rw [show (if ((2 : Int32) - (1 : Int32)) < (0 : Int32) then (((2 : Int32) - (1 : Int32)) + (17 : Int32)) else ((2 : Int32) - (1 : Int32))) = (1 : Int32) from by decide]
  obtain ⟨fs, hr, hrun, hended, hW, hsame⟩ := X5.leave (v := some (.int (1 : Int32))) (fun h => by rw [Bd.returns] at h; cases h) (BodyLoose.notSynchronized Bd)
  refine ⟨_, _, ?_, hrun, hended, _, _, rfl, ?_, ⟨_, rfl⟩, hW, hsame.mono (by decide) (by decide)⟩
  · show Steps p.tables e below (T5.setTop (mkF m 16 (LS_R r0) [(.int (1 : Int32))])) _
    exact retOut X5 hx Bd.returns rfl (Or.inl ⟨rfl, Or.inl rfl, _, rfl⟩) (hb hby d14_16) hr
  · show Qsiz01_1_2 Z r0 ea ka x1 h0 n0 _ T5.heap _
    rw [e5]
    exact ⟨rfl, N5, rfl⟩
theorem ef_peekFirst10_0_1 (m : MethodId) (r0 : Addr) : entryFrame m #[(.ref r0)] 1 = mkF m 0 #[.val (.ref r0)] [] := by first | (simp [entryFrame, mkF, argsToLocals, Value.category]; done) | rfl
theorem pn_29 : plainName "java/util/ArrayDeque" = true := by first | (simp [plainName, overriddenIn]; done) | decide +kernel
theorem d29_0 : decode jdk_21_method_24_code 0 = .ok (.aload_n 0, 1) := by decide +kernel
theorem d29_1 : decode jdk_21_method_24_code 1 = .ok (.getfield 3, 3) := by decide +kernel
theorem d29_4 : decode jdk_21_method_24_code 4 = .ok (.aload_n 0, 1) := by decide +kernel
theorem d29_5 : decode jdk_21_method_24_code 5 = .ok (.getfield 24, 3) := by decide +kernel
theorem d29_8 : decode jdk_21_method_24_code 8 = .ok (.invokestatic 103, 3) := by decide +kernel
theorem pd___Ljava_lang_Object_I_Ljava_lang_Object_ : parseMethodDescriptor "([Ljava/lang/Object;I)Ljava/lang/Object;" = some ⟨[(.array (.object "java/lang/Object")), .int], some (.object "java/lang/Object")⟩ := by decide +kernel
theorem d29_11 : decode jdk_21_method_24_code 11 = .ok (.areturn, 1) := by decide +kernel
def QpeekFirst10_0_1 (Z : State) (r0 : Addr) (ea : Addr) (ka : ClassId) (x0 : Addr) (h0 : Heap) (n0 : Nat) (v : Option Value) (h : Heap) (L : List Loc) : Prop := v = some (.ref x0) ∧ Fr n0 L ∧ h = h0
set_option maxRecDepth 65536 in
set_option maxHeartbeats 40000000 in
theorem rmpeekFirst10_0_1 (l : Launch) (Z : State) (a0 : Array Value) (hw : ∀ d ∈ tables_1, d.before a0 Z = true) (ws : List Jvm.Cond) (r0 : Addr) (ea : Addr) (ka : ClassId) (x0 : Addr) (h0 : Heap) (n0 : Nat) (Z0 : n0 ≤ h0.size) (E0 : Exa Z h0 r0 "java/util/ArrayDeque") (P0 : Fld Z h0 r0 "java/util/ArrayDeque" "elements" "[Ljava/lang/Object;" (.ref ea)) (P1 : Fld Z h0 r0 "java/util/ArrayDeque" "head" "I" (.int (0 : Int32))) (P2 : Fld Z h0 r0 "java/util/ArrayDeque" "tail" "I" (.int (1 : Int32))) (P3 : Arv Z h0 ea ka (.object "java/lang/Object") (17 : Int32) [(.ref x0), .null, .null, .null, .null, .null, .null, .null, .null, .null, .null, .null, .null, .null, .null, .null, .null] .null) (Ov : Ovr Z ka "java/lang/Object") (g_r0 : n0 ≤ r0) (g_ea : n0 ≤ ea) :
    MetFree l (⟨"java/util/ArrayDeque", "peekFirst", "()Ljava/lang/Object;"⟩ : MethodName) (head1 (Jvm.Cond.code (⟨"java/util/ArrayDeque", "peekFirst", "()Ljava/lang/Object;"⟩ : MethodName) jdk_21_method_24_code 1 (some (.object "java/lang/Object")) :: ws) ({ frames := 1, cells := 0, slots := 0, locals := 20 } : Room)) (fun a U => a = #[(.ref r0)] ∧ Z.Warmed39 U.vm ∧ U.heap = h0) (fun _ _ _ _ _ => True) (fun _ U o U' => ∃ v L, o = .returned v ∧ QpeekFirst10_0_1 Z r0 ea ka x0 h0 n0 v U'.heap L ∧ FrameEnd U o U' L ({ frames := 1, cells := 0, slots := 0, locals := 20 } : Room).cells ({ frames := 1, cells := 0, slots := 0, locals := 20 } : Room).slots) := by
  refine MetFree.of_bodySF (plainFor_of_name pn_29) hisR ?_
  intro p e s m args below meth c s₁ Bd hml0 hP hK
  obtain ⟨rfl, hZ, hh⟩ := hP
  have hx := Bd.exec
  have hby := Bd.bytes
  have hml : c.maxLocals = 1 := hml0
  have hown : s.vm.findClass "java/util/ArrayDeque" = some m.cls := findClass_of_methodNamed Bd.named
  have hnm := (name_of_methodNamed Bd.named Bd.method).1
  have X0 : Stand p l e ({ frames := 1, cells := 0, slots := 0, locals := 20 } : Room) s m #[(.ref r0)] below meth c s₁ [] 0 0 := Stand.of_body Bd
  have e0 : s₁.heap = h0 := by rw [← hh, Bd.state]; rfl
  have N0 := Fr.nil n0
  refine own_go (B := s₁.setTop (mkF m 0 (LS_R r0) [])) (fun t k => castTop (ef_peekFirst10_0_1 m r0) k) ?_
  refine own_go (B := s₁.setTop (mkF m 1 (LS_R r0) [(.ref r0)])) (fun t k => ?_) ?_
  · show Steps p.tables e below (s₁.setTop (mkF m 0 (LS_R r0) [])) _
    refine XS.aloadN X0.here hx rfl (hb hby d29_0) rfl rfl ?_
    exact k
  obtain ⟨T1, X1, e1, st1⟩ := getF X0 hx hZ hown (host := "") (Or.inl (hw _ (List.mem_of_getElem? (i := 80) rfl))) Via.refl e0 P0 (g := (mkF m 1 (LS_R r0) [(.ref r0)])) rfl rfl (hb hby d29_1)
  refine own_go (B := T1.setTop (mkF m 4 (LS_R r0) [(.ref ea)])) (fun t k => st1 _ k) ?_
  refine own_go (B := T1.setTop (mkF m 5 (LS_R r0) [(.ref r0), (.ref ea)])) (fun t k => ?_) ?_
  · show Steps p.tables e below (T1.setTop (mkF m 4 (LS_R r0) [(.ref ea)])) _
    refine XS.aloadN X1.here hx rfl (hb hby d29_4) rfl rfl ?_
    exact k
  obtain ⟨T2, X2, e2, st2⟩ := getF X1 hx hZ hown (host := "") (Or.inl (hw _ (List.mem_of_getElem? (i := 104) rfl))) Via.refl e1 P1 (g := (mkF m 5 (LS_R r0) [(.ref r0), (.ref ea)])) rfl rfl (hb hby d29_5)
  refine own_go (B := T2.setTop (mkF m 8 (LS_R r0) [(.int (0 : Int32)), (.ref ea)])) (fun t k => st2 _ k) ?_
  obtain ⟨_, _, ⟨T3, L3, k3, n3⟩, -, X3, ⟨Lc3, hQ3, l3, y3, z3⟩, st3⟩ := Jvm.LawKit.callS X2 hx (y := (⟨"java/util/ArrayDeque", "elementAt", "([Ljava/lang/Object;I)Ljava/lang/Object;"⟩ : MethodName)) hown (mvT hZ (hw _ (List.mem_of_getElem? (i := 214) rfl))) (mvT hZ (hw _ (List.mem_of_getElem? (i := 215) rfl))) (mvT hZ (hw _ (List.mem_of_getElem? (i := 67) rfl))) (mvT hZ (hw _ (List.mem_of_getElem? (i := 216) rfl))) (by decide) (backOf (W := 0) (rmeat100 l Z a0 hw [] ea ka x0 h0 n0 Z0 P3) hZ (hw _ (List.mem_of_getElem? (i := 216) rfl)) (hw _ (List.mem_of_getElem? (i := 67) rfl)) (by decide) (by decide)) (g := (mkF m 8 (LS_R r0) [(.int (0 : Int32)), (.ref ea)])) rfl (by rw [hml]; rfl) (argsL := [(.ref ea), (.int (0 : Int32))]) (rest := []) (lenOf pd___Ljava_lang_Object_I_Ljava_lang_Object_ rfl) rfl (by show 2 * 0 + _ ≤ _; exact Nat.le_of_eq rfl) (hb hby d29_8) (fun _ _ => ⟨rfl, e2, (by decide : 0 + 0 ≤ _), (by decide : 0 + 0 ≤ _)⟩)
  dsimp only [Pt.U, Pt.locs, Pt.cells, Pt.slots] at X3 l3 y3 z3 st3 hQ3
  subst l3 y3 z3
  obtain ⟨rfl, N3q, e3⟩ := hQ3
  have N3 := Fr.app N0 N3q
  refine own_go (B := T3.setTop (mkF m 11 (LS_R r0) [(.ref x0)])) (fun t k => st3 _ k) ?_
  obtain ⟨fs, hr, hrun, hended, hW, hsame⟩ := X3.leave (v := some (.ref x0)) (fun h => by rw [Bd.returns] at h; cases h) (BodyLoose.notSynchronized Bd)
  refine ⟨_, _, ?_, hrun, hended, _, _, rfl, ?_, ⟨_, rfl⟩, hW, hsame.mono (by decide) (by decide)⟩
  · show Steps p.tables e below (T3.setTop (mkF m 11 (LS_R r0) [(.ref x0)])) _
    exact retOut X3 hx Bd.returns rfl (Or.inr (Or.inr (Or.inr (Or.inr ⟨rfl, rfl, rfl⟩)))) (hb hby d29_11) hr
  · show QpeekFirst10_0_1 Z r0 ea ka x0 h0 n0 _ T3.heap _
    rw [e3]
    exact ⟨rfl, N3, rfl⟩
theorem ef_peekLast10_0_1 (m : MethodId) (r0 : Addr) : entryFrame m #[(.ref r0)] 2 = mkF m 0 #[.val (.ref r0), .unset] [] := by first | (simp [entryFrame, mkF, argsToLocals, Value.category]; done) | rfl
theorem pn_34 : plainName "java/util/ArrayDeque" = true := by first | (simp [plainName, overriddenIn]; done) | decide +kernel
abbrev LS_Ru (a0 : Addr) : Array Slot := #[.val (.ref a0), .unset]
theorem d34_0 : decode jdk_21_method_25_code 0 = .ok (.aload_n 0, 1) := by decide +kernel
theorem d34_1 : decode jdk_21_method_25_code 1 = .ok (.getfield 3, 3) := by decide +kernel
theorem d34_4 : decode jdk_21_method_25_code 4 = .ok (.dup, 1) := by decide +kernel
theorem d34_5 : decode jdk_21_method_25_code 5 = .ok (.astore_n 1, 1) := by decide +kernel
theorem d34_6 : decode jdk_21_method_25_code 6 = .ok (.aload_n 0, 1) := by decide +kernel
theorem d34_7 : decode jdk_21_method_25_code 7 = .ok (.getfield 20, 3) := by decide +kernel
theorem d34_10 : decode jdk_21_method_25_code 10 = .ok (.aload_n 1, 1) := by decide +kernel
theorem d34_11 : decode jdk_21_method_25_code 11 = .ok (.arraylength, 1) := by decide +kernel
theorem d34_12 : decode jdk_21_method_25_code 12 = .ok (.invokestatic 68, 3) := by decide +kernel
theorem pd__II_I : parseMethodDescriptor "(II)I" = some ⟨[.int, .int], some .int⟩ := by decide +kernel
theorem d34_15 : decode jdk_21_method_25_code 15 = .ok (.invokestatic 103, 3) := by decide +kernel
theorem d34_18 : decode jdk_21_method_25_code 18 = .ok (.areturn, 1) := by decide +kernel
def QpeekLast10_0_1 (Z : State) (r0 : Addr) (ea : Addr) (ka : ClassId) (x0 : Addr) (h0 : Heap) (n0 : Nat) (v : Option Value) (h : Heap) (L : List Loc) : Prop := v = some (.ref x0) ∧ Fr n0 L ∧ h = h0
set_option maxRecDepth 65536 in
set_option maxHeartbeats 40000000 in
theorem rmpeekLast10_0_1 (l : Launch) (Z : State) (a0 : Array Value) (hw : ∀ d ∈ tables_1, d.before a0 Z = true) (ws : List Jvm.Cond) (r0 : Addr) (ea : Addr) (ka : ClassId) (x0 : Addr) (h0 : Heap) (n0 : Nat) (Z0 : n0 ≤ h0.size) (E0 : Exa Z h0 r0 "java/util/ArrayDeque") (P0 : Fld Z h0 r0 "java/util/ArrayDeque" "elements" "[Ljava/lang/Object;" (.ref ea)) (P1 : Fld Z h0 r0 "java/util/ArrayDeque" "head" "I" (.int (0 : Int32))) (P2 : Fld Z h0 r0 "java/util/ArrayDeque" "tail" "I" (.int (1 : Int32))) (P3 : Arv Z h0 ea ka (.object "java/lang/Object") (17 : Int32) [(.ref x0), .null, .null, .null, .null, .null, .null, .null, .null, .null, .null, .null, .null, .null, .null, .null, .null] .null) (Ov : Ovr Z ka "java/lang/Object") (g_r0 : n0 ≤ r0) (g_ea : n0 ≤ ea) :
    MetFree l (⟨"java/util/ArrayDeque", "peekLast", "()Ljava/lang/Object;"⟩ : MethodName) (head1 (Jvm.Cond.code (⟨"java/util/ArrayDeque", "peekLast", "()Ljava/lang/Object;"⟩ : MethodName) jdk_21_method_25_code 2 (some (.object "java/lang/Object")) :: ws) ({ frames := 1, cells := 0, slots := 0, locals := 20 } : Room)) (fun a U => a = #[(.ref r0)] ∧ Z.Warmed39 U.vm ∧ U.heap = h0) (fun _ _ _ _ _ => True) (fun _ U o U' => ∃ v L, o = .returned v ∧ QpeekLast10_0_1 Z r0 ea ka x0 h0 n0 v U'.heap L ∧ FrameEnd U o U' L ({ frames := 1, cells := 0, slots := 0, locals := 20 } : Room).cells ({ frames := 1, cells := 0, slots := 0, locals := 20 } : Room).slots) := by
  refine MetFree.of_bodySF (plainFor_of_name pn_34) hisR ?_
  intro p e s m args below meth c s₁ Bd hml0 hP hK
  obtain ⟨rfl, hZ, hh⟩ := hP
  have hx := Bd.exec
  have hby := Bd.bytes
  have hml : c.maxLocals = 2 := hml0
  have hown : s.vm.findClass "java/util/ArrayDeque" = some m.cls := findClass_of_methodNamed Bd.named
  have hnm := (name_of_methodNamed Bd.named Bd.method).1
  have X0 : Stand p l e ({ frames := 1, cells := 0, slots := 0, locals := 20 } : Room) s m #[(.ref r0)] below meth c s₁ [] 0 0 := Stand.of_body Bd
  have e0 : s₁.heap = h0 := by rw [← hh, Bd.state]; rfl
  have N0 := Fr.nil n0
  refine own_go (B := s₁.setTop (mkF m 0 (LS_Ru r0) [])) (fun t k => castTop (ef_peekLast10_0_1 m r0) k) ?_
  refine own_go (B := s₁.setTop (mkF m 1 (LS_Ru r0) [(.ref r0)])) (fun t k => ?_) ?_
  · show Steps p.tables e below (s₁.setTop (mkF m 0 (LS_Ru r0) [])) _
    refine XS.aloadN X0.here hx rfl (hb hby d34_0) rfl rfl ?_
    exact k
  obtain ⟨T1, X1, e1, st1⟩ := getF X0 hx hZ hown (host := "") (Or.inl (hw _ (List.mem_of_getElem? (i := 80) rfl))) Via.refl e0 P0 (g := (mkF m 1 (LS_Ru r0) [(.ref r0)])) rfl rfl (hb hby d34_1)
  refine own_go (B := T1.setTop (mkF m 4 (LS_Ru r0) [(.ref ea)])) (fun t k => st1 _ k) ?_
  refine own_go (B := T1.setTop (mkF m 7 (LS_RR r0 ea) [(.ref r0), (.ref ea)])) (fun t k => ?_) ?_
  · show Steps p.tables e below (T1.setTop (mkF m 4 (LS_Ru r0) [(.ref ea)])) _
    refine XS.dup X1.here hx rfl (hb hby d34_4) rfl rfl ?_
    show Steps p.tables e below (T1.setTop (mkF m 5 (LS_Ru r0) [(.ref ea), (.ref ea)])) _
    refine XS.astoreN X1.here hx rfl (hb hby d34_5) rfl rfl (l' := (LS_RR r0 ea)) rfl ?_
    show Steps p.tables e below (T1.setTop (mkF m 6 (LS_RR r0 ea) [(.ref ea)])) _
    refine XS.aloadN X1.here hx rfl (hb hby d34_6) rfl rfl ?_
    exact k
  obtain ⟨T2, X2, e2, st2⟩ := getF X1 hx hZ hown (host := "") (Or.inl (hw _ (List.mem_of_getElem? (i := 106) rfl))) Via.refl e1 P2 (g := (mkF m 7 (LS_RR r0 ea) [(.ref r0), (.ref ea)])) rfl rfl (hb hby d34_7)
  refine own_go (B := T2.setTop (mkF m 10 (LS_RR r0 ea) [(.int (1 : Int32)), (.ref ea)])) (fun t k => st2 _ k) ?_
  obtain ⟨cl3, Ar3, qa3, Sa3, Na3, Ha3, Ga3⟩ := id P3
  refine own_go (B := T2.setTop (mkF m 12 (LS_RR r0 ea) [(.int (17 : Int32)), (.int (1 : Int32)), (.ref ea)])) (fun t k => ?_) ?_
  · show Steps p.tables e below (T2.setTop (mkF m 10 (LS_RR r0 ea) [(.int (1 : Int32)), (.ref ea)])) _
    refine XS.aloadN X2.here hx rfl (hb hby d34_10) rfl rfl ?_
    show Steps p.tables e below (T2.setTop (mkF m 11 (LS_RR r0 ea) [(.ref ea), (.int (1 : Int32)), (.ref ea)])) _
    refine X2.arraylength hx (by rw [e2]; exact Ar3.1) (State.isArrayOf_alike hZ.alike Ar3.2.1) (g := (mkF m 11 (LS_RR r0 ea) [(.ref ea), (.int (1 : Int32)), (.ref ea)])) rfl rfl (hb hby d34_11) _ ?_
    rw [len_of Sa3 Na3]
    exact k
  obtain ⟨_, _, ⟨T4, L4, k4, n4⟩, -, X4, ⟨Lc4, hQ4, l4, y4, z4⟩, st4⟩ := Jvm.LawKit.callS X2 hx (y := (⟨"java/util/ArrayDeque", "dec", "(II)I"⟩ : MethodName)) hown (mvT hZ (hw _ (List.mem_of_getElem? (i := 238) rfl))) (mvT hZ (hw _ (List.mem_of_getElem? (i := 239) rfl))) (mvT hZ (hw _ (List.mem_of_getElem? (i := 67) rfl))) (mvT hZ (hw _ (List.mem_of_getElem? (i := 240) rfl))) (by decide) (backOf (W := 1) (rmdcr l Z a0 hw [] (1 : Int32) (17 : Int32) h0 n0 Z0) hZ (hw _ (List.mem_of_getElem? (i := 240) rfl)) (hw _ (List.mem_of_getElem? (i := 67) rfl)) (by decide) (by decide)) (g := (mkF m 12 (LS_RR r0 ea) [(.int (17 : Int32)), (.int (1 : Int32)), (.ref ea)])) rfl (by rw [hml]; rfl) (argsL := [(.int (1 : Int32)), (.int (17 : Int32))]) (rest := [(.ref ea)]) (lenOf pd__II_I rfl) rfl (by show 2 * 0 + _ ≤ _; exact Nat.le_of_eq rfl) (hb hby d34_12) (fun _ _ => ⟨rfl, e2, (by decide : 0 + 0 ≤ _), (by decide : 0 + 0 ≤ _)⟩)
  dsimp only [Pt.U, Pt.locs, Pt.cells, Pt.slots] at X4 l4 y4 z4 st4 hQ4
  subst l4 y4 z4
  obtain ⟨rfl, N4q, e4⟩ := hQ4
  have N4 := Fr.app N0 N4q
  refine own_go (B := T4.setTop (mkF m 15 (LS_RR r0 ea) [(.int (if ((1 : Int32) + (-1 : Int32)) < (0 : Int32) then ((17 : Int32) - (1 : Int32)) else ((1 : Int32) + (-1 : Int32)))), (.ref ea)])) (fun t k => st4 _ k) ?_
  rw [show (if ((1 : Int32) + (-1 : Int32)) < (0 : Int32) then ((17 : Int32) - (1 : Int32)) else ((1 : Int32) + (-1 : Int32))) = (0 : Int32) from by decide]
  obtain ⟨_, _, ⟨T5, L5, k5, n5⟩, -, X5, ⟨Lc5, hQ5, l5, y5, z5⟩, st5⟩ := Jvm.LawKit.callS X4 hx (y := (⟨"java/util/ArrayDeque", "elementAt", "([Ljava/lang/Object;I)Ljava/lang/Object;"⟩ : MethodName)) hown (mvT hZ (hw _ (List.mem_of_getElem? (i := 214) rfl))) (mvT hZ (hw _ (List.mem_of_getElem? (i := 215) rfl))) (mvT hZ (hw _ (List.mem_of_getElem? (i := 67) rfl))) (mvT hZ (hw _ (List.mem_of_getElem? (i := 216) rfl))) (by decide) (backOf (W := 0) (rmeat100 l Z a0 hw [] ea ka x0 h0 n0 Z0 P3) hZ (hw _ (List.mem_of_getElem? (i := 216) rfl)) (hw _ (List.mem_of_getElem? (i := 67) rfl)) (by decide) (by decide)) (g := (mkF m 15 (LS_RR r0 ea) [(.int (0 : Int32)), (.ref ea)])) rfl (by rw [hml]; rfl) (argsL := [(.ref ea), (.int (0 : Int32))]) (rest := []) (lenOf pd___Ljava_lang_Object_I_Ljava_lang_Object_ rfl) rfl (by show 2 * 0 + _ ≤ _; exact Nat.le_of_eq rfl) (hb hby d34_15) (fun _ _ => ⟨rfl, e4, (by decide : 0 + 0 ≤ _), (by decide : 0 + 0 ≤ _)⟩)
  dsimp only [Pt.U, Pt.locs, Pt.cells, Pt.slots] at X5 l5 y5 z5 st5 hQ5
  subst l5 y5 z5
  obtain ⟨rfl, N5q, e5⟩ := hQ5
  have N5 := Fr.app N4 N5q
  refine own_go (B := T5.setTop (mkF m 18 (LS_RR r0 ea) [(.ref x0)])) (fun t k => st5 _ k) ?_
  obtain ⟨fs, hr, hrun, hended, hW, hsame⟩ := X5.leave (v := some (.ref x0)) (fun h => by rw [Bd.returns] at h; cases h) (BodyLoose.notSynchronized Bd)
  refine ⟨_, _, ?_, hrun, hended, _, _, rfl, ?_, ⟨_, rfl⟩, hW, hsame.mono (by decide) (by decide)⟩
  · show Steps p.tables e below (T5.setTop (mkF m 18 (LS_RR r0 ea) [(.ref x0)])) _
    exact retOut X5 hx Bd.returns rfl (Or.inr (Or.inr (Or.inr (Or.inr ⟨rfl, rfl, rfl⟩)))) (hb hby d34_18) hr
  · show QpeekLast10_0_1 Z r0 ea ka x0 h0 n0 _ T5.heap _
    rw [e5]
    exact ⟨rfl, N5, rfl⟩
theorem ef_peekLast01_1_2 (m : MethodId) (r0 : Addr) : entryFrame m #[(.ref r0)] 2 = mkF m 0 #[.val (.ref r0), .unset] [] := by first | (simp [entryFrame, mkF, argsToLocals, Value.category]; done) | rfl
def QpeekLast01_1_2 (Z : State) (r0 : Addr) (ea : Addr) (ka : ClassId) (x1 : Addr) (h0 : Heap) (n0 : Nat) (v : Option Value) (h : Heap) (L : List Loc) : Prop := v = some (.ref x1) ∧ Fr n0 L ∧ h = h0
set_option maxRecDepth 65536 in
set_option maxHeartbeats 40000000 in
theorem rmpeekLast01_1_2 (l : Launch) (Z : State) (a0 : Array Value) (hw : ∀ d ∈ tables_1, d.before a0 Z = true) (ws : List Jvm.Cond) (r0 : Addr) (ea : Addr) (ka : ClassId) (x1 : Addr) (h0 : Heap) (n0 : Nat) (Z0 : n0 ≤ h0.size) (E0 : Exa Z h0 r0 "java/util/ArrayDeque") (P0 : Fld Z h0 r0 "java/util/ArrayDeque" "elements" "[Ljava/lang/Object;" (.ref ea)) (P1 : Fld Z h0 r0 "java/util/ArrayDeque" "head" "I" (.int (1 : Int32))) (P2 : Fld Z h0 r0 "java/util/ArrayDeque" "tail" "I" (.int (2 : Int32))) (P3 : Arv Z h0 ea ka (.object "java/lang/Object") (17 : Int32) [.null, (.ref x1), .null, .null, .null, .null, .null, .null, .null, .null, .null, .null, .null, .null, .null, .null, .null] .null) (Ov : Ovr Z ka "java/lang/Object") (g_r0 : n0 ≤ r0) (g_ea : n0 ≤ ea) :
    MetFree l (⟨"java/util/ArrayDeque", "peekLast", "()Ljava/lang/Object;"⟩ : MethodName) (head1 (Jvm.Cond.code (⟨"java/util/ArrayDeque", "peekLast", "()Ljava/lang/Object;"⟩ : MethodName) jdk_21_method_25_code 2 (some (.object "java/lang/Object")) :: ws) ({ frames := 1, cells := 0, slots := 0, locals := 20 } : Room)) (fun a U => a = #[(.ref r0)] ∧ Z.Warmed39 U.vm ∧ U.heap = h0) (fun _ _ _ _ _ => True) (fun _ U o U' => ∃ v L, o = .returned v ∧ QpeekLast01_1_2 Z r0 ea ka x1 h0 n0 v U'.heap L ∧ FrameEnd U o U' L ({ frames := 1, cells := 0, slots := 0, locals := 20 } : Room).cells ({ frames := 1, cells := 0, slots := 0, locals := 20 } : Room).slots) := by
  refine MetFree.of_bodySF (plainFor_of_name pn_34) hisR ?_
  intro p e s m args below meth c s₁ Bd hml0 hP hK
  obtain ⟨rfl, hZ, hh⟩ := hP
  have hx := Bd.exec
  have hby := Bd.bytes
  have hml : c.maxLocals = 2 := hml0
  have hown : s.vm.findClass "java/util/ArrayDeque" = some m.cls := findClass_of_methodNamed Bd.named
  have hnm := (name_of_methodNamed Bd.named Bd.method).1
  have X0 : Stand p l e ({ frames := 1, cells := 0, slots := 0, locals := 20 } : Room) s m #[(.ref r0)] below meth c s₁ [] 0 0 := Stand.of_body Bd
  have e0 : s₁.heap = h0 := by rw [← hh, Bd.state]; rfl
  have N0 := Fr.nil n0
  refine own_go (B := s₁.setTop (mkF m 0 (LS_Ru r0) [])) (fun t k => castTop (ef_peekLast01_1_2 m r0) k) ?_
  refine own_go (B := s₁.setTop (mkF m 1 (LS_Ru r0) [(.ref r0)])) (fun t k => ?_) ?_
  · show Steps p.tables e below (s₁.setTop (mkF m 0 (LS_Ru r0) [])) _
    refine XS.aloadN X0.here hx rfl (hb hby d34_0) rfl rfl ?_
    exact k
  obtain ⟨T1, X1, e1, st1⟩ := getF X0 hx hZ hown (host := "") (Or.inl (hw _ (List.mem_of_getElem? (i := 80) rfl))) Via.refl e0 P0 (g := (mkF m 1 (LS_Ru r0) [(.ref r0)])) rfl rfl (hb hby d34_1)
  refine own_go (B := T1.setTop (mkF m 4 (LS_Ru r0) [(.ref ea)])) (fun t k => st1 _ k) ?_
  refine own_go (B := T1.setTop (mkF m 7 (LS_RR r0 ea) [(.ref r0), (.ref ea)])) (fun t k => ?_) ?_
  · show Steps p.tables e below (T1.setTop (mkF m 4 (LS_Ru r0) [(.ref ea)])) _
    refine XS.dup X1.here hx rfl (hb hby d34_4) rfl rfl ?_
    show Steps p.tables e below (T1.setTop (mkF m 5 (LS_Ru r0) [(.ref ea), (.ref ea)])) _
    refine XS.astoreN X1.here hx rfl (hb hby d34_5) rfl rfl (l' := (LS_RR r0 ea)) rfl ?_
    show Steps p.tables e below (T1.setTop (mkF m 6 (LS_RR r0 ea) [(.ref ea)])) _
    refine XS.aloadN X1.here hx rfl (hb hby d34_6) rfl rfl ?_
    exact k
  obtain ⟨T2, X2, e2, st2⟩ := getF X1 hx hZ hown (host := "") (Or.inl (hw _ (List.mem_of_getElem? (i := 106) rfl))) Via.refl e1 P2 (g := (mkF m 7 (LS_RR r0 ea) [(.ref r0), (.ref ea)])) rfl rfl (hb hby d34_7)
  refine own_go (B := T2.setTop (mkF m 10 (LS_RR r0 ea) [(.int (2 : Int32)), (.ref ea)])) (fun t k => st2 _ k) ?_
  obtain ⟨cl3, Ar3, qa3, Sa3, Na3, Ha3, Ga3⟩ := id P3
  refine own_go (B := T2.setTop (mkF m 12 (LS_RR r0 ea) [(.int (17 : Int32)), (.int (2 : Int32)), (.ref ea)])) (fun t k => ?_) ?_
  · show Steps p.tables e below (T2.setTop (mkF m 10 (LS_RR r0 ea) [(.int (2 : Int32)), (.ref ea)])) _
    refine XS.aloadN X2.here hx rfl (hb hby d34_10) rfl rfl ?_
    show Steps p.tables e below (T2.setTop (mkF m 11 (LS_RR r0 ea) [(.ref ea), (.int (2 : Int32)), (.ref ea)])) _
    refine X2.arraylength hx (by rw [e2]; exact Ar3.1) (State.isArrayOf_alike hZ.alike Ar3.2.1) (g := (mkF m 11 (LS_RR r0 ea) [(.ref ea), (.int (2 : Int32)), (.ref ea)])) rfl rfl (hb hby d34_11) _ ?_
    rw [len_of Sa3 Na3]
    exact k
  obtain ⟨_, _, ⟨T4, L4, k4, n4⟩, -, X4, ⟨Lc4, hQ4, l4, y4, z4⟩, st4⟩ := Jvm.LawKit.callS X2 hx (y := (⟨"java/util/ArrayDeque", "dec", "(II)I"⟩ : MethodName)) hown (mvT hZ (hw _ (List.mem_of_getElem? (i := 238) rfl))) (mvT hZ (hw _ (List.mem_of_getElem? (i := 239) rfl))) (mvT hZ (hw _ (List.mem_of_getElem? (i := 67) rfl))) (mvT hZ (hw _ (List.mem_of_getElem? (i := 240) rfl))) (by decide) (backOf (W := 1) (rmdcr l Z a0 hw [] (2 : Int32) (17 : Int32) h0 n0 Z0) hZ (hw _ (List.mem_of_getElem? (i := 240) rfl)) (hw _ (List.mem_of_getElem? (i := 67) rfl)) (by decide) (by decide)) (g := (mkF m 12 (LS_RR r0 ea) [(.int (17 : Int32)), (.int (2 : Int32)), (.ref ea)])) rfl (by rw [hml]; rfl) (argsL := [(.int (2 : Int32)), (.int (17 : Int32))]) (rest := [(.ref ea)]) (lenOf pd__II_I rfl) rfl (by show 2 * 0 + _ ≤ _; exact Nat.le_of_eq rfl) (hb hby d34_12) (fun _ _ => ⟨rfl, e2, (by decide : 0 + 0 ≤ _), (by decide : 0 + 0 ≤ _)⟩)
  dsimp only [Pt.U, Pt.locs, Pt.cells, Pt.slots] at X4 l4 y4 z4 st4 hQ4
  subst l4 y4 z4
  obtain ⟨rfl, N4q, e4⟩ := hQ4
  have N4 := Fr.app N0 N4q
  refine own_go (B := T4.setTop (mkF m 15 (LS_RR r0 ea) [(.int (if ((2 : Int32) + (-1 : Int32)) < (0 : Int32) then ((17 : Int32) - (1 : Int32)) else ((2 : Int32) + (-1 : Int32)))), (.ref ea)])) (fun t k => st4 _ k) ?_
  rw [show (if ((2 : Int32) + (-1 : Int32)) < (0 : Int32) then ((17 : Int32) - (1 : Int32)) else ((2 : Int32) + (-1 : Int32))) = (1 : Int32) from by decide]
  obtain ⟨_, _, ⟨T5, L5, k5, n5⟩, -, X5, ⟨Lc5, hQ5, l5, y5, z5⟩, st5⟩ := Jvm.LawKit.callS X4 hx (y := (⟨"java/util/ArrayDeque", "elementAt", "([Ljava/lang/Object;I)Ljava/lang/Object;"⟩ : MethodName)) hown (mvT hZ (hw _ (List.mem_of_getElem? (i := 214) rfl))) (mvT hZ (hw _ (List.mem_of_getElem? (i := 215) rfl))) (mvT hZ (hw _ (List.mem_of_getElem? (i := 67) rfl))) (mvT hZ (hw _ (List.mem_of_getElem? (i := 216) rfl))) (by decide) (backOf (W := 0) (rmeat011 l Z a0 hw [] ea ka x1 h0 n0 Z0 P3) hZ (hw _ (List.mem_of_getElem? (i := 216) rfl)) (hw _ (List.mem_of_getElem? (i := 67) rfl)) (by decide) (by decide)) (g := (mkF m 15 (LS_RR r0 ea) [(.int (1 : Int32)), (.ref ea)])) rfl (by rw [hml]; rfl) (argsL := [(.ref ea), (.int (1 : Int32))]) (rest := []) (lenOf pd___Ljava_lang_Object_I_Ljava_lang_Object_ rfl) rfl (by show 2 * 0 + _ ≤ _; exact Nat.le_of_eq rfl) (hb hby d34_15) (fun _ _ => ⟨rfl, e4, (by decide : 0 + 0 ≤ _), (by decide : 0 + 0 ≤ _)⟩)
  dsimp only [Pt.U, Pt.locs, Pt.cells, Pt.slots] at X5 l5 y5 z5 st5 hQ5
  subst l5 y5 z5
  obtain ⟨rfl, N5q, e5⟩ := hQ5
  have N5 := Fr.app N4 N5q
  refine own_go (B := T5.setTop (mkF m 18 (LS_RR r0 ea) [(.ref x1)])) (fun t k => st5 _ k) ?_
  obtain ⟨fs, hr, hrun, hended, hW, hsame⟩ := X5.leave (v := some (.ref x1)) (fun h => by rw [Bd.returns] at h; cases h) (BodyLoose.notSynchronized Bd)
  refine ⟨_, _, ?_, hrun, hended, _, _, rfl, ?_, ⟨_, rfl⟩, hW, hsame.mono (by decide) (by decide)⟩
  · show Steps p.tables e below (T5.setTop (mkF m 18 (LS_RR r0 ea) [(.ref x1)])) _
    exact retOut X5 hx Bd.returns rfl (Or.inr (Or.inr (Or.inr (Or.inr ⟨rfl, rfl, rfl⟩)))) (hb hby d34_18) hr
  · show QpeekLast01_1_2 Z r0 ea ka x1 h0 n0 _ T5.heap _
    rw [e5]
    exact ⟨rfl, N5, rfl⟩
theorem ef_peekLast11_0_2 (m : MethodId) (r0 : Addr) : entryFrame m #[(.ref r0)] 2 = mkF m 0 #[.val (.ref r0), .unset] [] := by first | (simp [entryFrame, mkF, argsToLocals, Value.category]; done) | rfl
def QpeekLast11_0_2 (Z : State) (r0 : Addr) (ea : Addr) (ka : ClassId) (x0 x1 : Addr) (h0 : Heap) (n0 : Nat) (v : Option Value) (h : Heap) (L : List Loc) : Prop := v = some (.ref x1) ∧ Fr n0 L ∧ h = h0
set_option maxRecDepth 65536 in
set_option maxHeartbeats 40000000 in
theorem rmpeekLast11_0_2 (l : Launch) (Z : State) (a0 : Array Value) (hw : ∀ d ∈ tables_1, d.before a0 Z = true) (ws : List Jvm.Cond) (r0 : Addr) (ea : Addr) (ka : ClassId) (x0 x1 : Addr) (h0 : Heap) (n0 : Nat) (Z0 : n0 ≤ h0.size) (E0 : Exa Z h0 r0 "java/util/ArrayDeque") (P0 : Fld Z h0 r0 "java/util/ArrayDeque" "elements" "[Ljava/lang/Object;" (.ref ea)) (P1 : Fld Z h0 r0 "java/util/ArrayDeque" "head" "I" (.int (0 : Int32))) (P2 : Fld Z h0 r0 "java/util/ArrayDeque" "tail" "I" (.int (2 : Int32))) (P3 : Arv Z h0 ea ka (.object "java/lang/Object") (17 : Int32) [(.ref x0), (.ref x1), .null, .null, .null, .null, .null, .null, .null, .null, .null, .null, .null, .null, .null, .null, .null] .null) (Ov : Ovr Z ka "java/lang/Object") (g_r0 : n0 ≤ r0) (g_ea : n0 ≤ ea) :
    MetFree l (⟨"java/util/ArrayDeque", "peekLast", "()Ljava/lang/Object;"⟩ : MethodName) (head1 (Jvm.Cond.code (⟨"java/util/ArrayDeque", "peekLast", "()Ljava/lang/Object;"⟩ : MethodName) jdk_21_method_25_code 2 (some (.object "java/lang/Object")) :: ws) ({ frames := 1, cells := 0, slots := 0, locals := 20 } : Room)) (fun a U => a = #[(.ref r0)] ∧ Z.Warmed39 U.vm ∧ U.heap = h0) (fun _ _ _ _ _ => True) (fun _ U o U' => ∃ v L, o = .returned v ∧ QpeekLast11_0_2 Z r0 ea ka x0 x1 h0 n0 v U'.heap L ∧ FrameEnd U o U' L ({ frames := 1, cells := 0, slots := 0, locals := 20 } : Room).cells ({ frames := 1, cells := 0, slots := 0, locals := 20 } : Room).slots) := by
  refine MetFree.of_bodySF (plainFor_of_name pn_34) hisR ?_
  intro p e s m args below meth c s₁ Bd hml0 hP hK
  obtain ⟨rfl, hZ, hh⟩ := hP
  have hx := Bd.exec
  have hby := Bd.bytes
  have hml : c.maxLocals = 2 := hml0
  have hown : s.vm.findClass "java/util/ArrayDeque" = some m.cls := findClass_of_methodNamed Bd.named
  have hnm := (name_of_methodNamed Bd.named Bd.method).1
  have X0 : Stand p l e ({ frames := 1, cells := 0, slots := 0, locals := 20 } : Room) s m #[(.ref r0)] below meth c s₁ [] 0 0 := Stand.of_body Bd
  have e0 : s₁.heap = h0 := by rw [← hh, Bd.state]; rfl
  have N0 := Fr.nil n0
  refine own_go (B := s₁.setTop (mkF m 0 (LS_Ru r0) [])) (fun t k => castTop (ef_peekLast11_0_2 m r0) k) ?_
  refine own_go (B := s₁.setTop (mkF m 1 (LS_Ru r0) [(.ref r0)])) (fun t k => ?_) ?_
  · show Steps p.tables e below (s₁.setTop (mkF m 0 (LS_Ru r0) [])) _
    refine XS.aloadN X0.here hx rfl (hb hby d34_0) rfl rfl ?_
    exact k
  obtain ⟨T1, X1, e1, st1⟩ := getF X0 hx hZ hown (host := "") (Or.inl (hw _ (List.mem_of_getElem? (i := 80) rfl))) Via.refl e0 P0 (g := (mkF m 1 (LS_Ru r0) [(.ref r0)])) rfl rfl (hb hby d34_1)
  refine own_go (B := T1.setTop (mkF m 4 (LS_Ru r0) [(.ref ea)])) (fun t k => st1 _ k) ?_
  refine own_go (B := T1.setTop (mkF m 7 (LS_RR r0 ea) [(.ref r0), (.ref ea)])) (fun t k => ?_) ?_
  · show Steps p.tables e below (T1.setTop (mkF m 4 (LS_Ru r0) [(.ref ea)])) _
    refine XS.dup X1.here hx rfl (hb hby d34_4) rfl rfl ?_
    show Steps p.tables e below (T1.setTop (mkF m 5 (LS_Ru r0) [(.ref ea), (.ref ea)])) _
    refine XS.astoreN X1.here hx rfl (hb hby d34_5) rfl rfl (l' := (LS_RR r0 ea)) rfl ?_
    show Steps p.tables e below (T1.setTop (mkF m 6 (LS_RR r0 ea) [(.ref ea)])) _
    refine XS.aloadN X1.here hx rfl (hb hby d34_6) rfl rfl ?_
    exact k
  obtain ⟨T2, X2, e2, st2⟩ := getF X1 hx hZ hown (host := "") (Or.inl (hw _ (List.mem_of_getElem? (i := 106) rfl))) Via.refl e1 P2 (g := (mkF m 7 (LS_RR r0 ea) [(.ref r0), (.ref ea)])) rfl rfl (hb hby d34_7)
  refine own_go (B := T2.setTop (mkF m 10 (LS_RR r0 ea) [(.int (2 : Int32)), (.ref ea)])) (fun t k => st2 _ k) ?_
  obtain ⟨cl3, Ar3, qa3, Sa3, Na3, Ha3, Ga3⟩ := id P3
  refine own_go (B := T2.setTop (mkF m 12 (LS_RR r0 ea) [(.int (17 : Int32)), (.int (2 : Int32)), (.ref ea)])) (fun t k => ?_) ?_
  · show Steps p.tables e below (T2.setTop (mkF m 10 (LS_RR r0 ea) [(.int (2 : Int32)), (.ref ea)])) _
    refine XS.aloadN X2.here hx rfl (hb hby d34_10) rfl rfl ?_
    show Steps p.tables e below (T2.setTop (mkF m 11 (LS_RR r0 ea) [(.ref ea), (.int (2 : Int32)), (.ref ea)])) _
    refine X2.arraylength hx (by rw [e2]; exact Ar3.1) (State.isArrayOf_alike hZ.alike Ar3.2.1) (g := (mkF m 11 (LS_RR r0 ea) [(.ref ea), (.int (2 : Int32)), (.ref ea)])) rfl rfl (hb hby d34_11) _ ?_
    rw [len_of Sa3 Na3]
    exact k
  obtain ⟨_, _, ⟨T4, L4, k4, n4⟩, -, X4, ⟨Lc4, hQ4, l4, y4, z4⟩, st4⟩ := Jvm.LawKit.callS X2 hx (y := (⟨"java/util/ArrayDeque", "dec", "(II)I"⟩ : MethodName)) hown (mvT hZ (hw _ (List.mem_of_getElem? (i := 238) rfl))) (mvT hZ (hw _ (List.mem_of_getElem? (i := 239) rfl))) (mvT hZ (hw _ (List.mem_of_getElem? (i := 67) rfl))) (mvT hZ (hw _ (List.mem_of_getElem? (i := 240) rfl))) (by decide) (backOf (W := 1) (rmdcr l Z a0 hw [] (2 : Int32) (17 : Int32) h0 n0 Z0) hZ (hw _ (List.mem_of_getElem? (i := 240) rfl)) (hw _ (List.mem_of_getElem? (i := 67) rfl)) (by decide) (by decide)) (g := (mkF m 12 (LS_RR r0 ea) [(.int (17 : Int32)), (.int (2 : Int32)), (.ref ea)])) rfl (by rw [hml]; rfl) (argsL := [(.int (2 : Int32)), (.int (17 : Int32))]) (rest := [(.ref ea)]) (lenOf pd__II_I rfl) rfl (by show 2 * 0 + _ ≤ _; exact Nat.le_of_eq rfl) (hb hby d34_12) (fun _ _ => ⟨rfl, e2, (by decide : 0 + 0 ≤ _), (by decide : 0 + 0 ≤ _)⟩)
  dsimp only [Pt.U, Pt.locs, Pt.cells, Pt.slots] at X4 l4 y4 z4 st4 hQ4
  subst l4 y4 z4
  obtain ⟨rfl, N4q, e4⟩ := hQ4
  have N4 := Fr.app N0 N4q
  refine own_go (B := T4.setTop (mkF m 15 (LS_RR r0 ea) [(.int (if ((2 : Int32) + (-1 : Int32)) < (0 : Int32) then ((17 : Int32) - (1 : Int32)) else ((2 : Int32) + (-1 : Int32)))), (.ref ea)])) (fun t k => st4 _ k) ?_
  rw [show (if ((2 : Int32) + (-1 : Int32)) < (0 : Int32) then ((17 : Int32) - (1 : Int32)) else ((2 : Int32) + (-1 : Int32))) = (1 : Int32) from by decide]
  obtain ⟨_, _, ⟨T5, L5, k5, n5⟩, -, X5, ⟨Lc5, hQ5, l5, y5, z5⟩, st5⟩ := Jvm.LawKit.callS X4 hx (y := (⟨"java/util/ArrayDeque", "elementAt", "([Ljava/lang/Object;I)Ljava/lang/Object;"⟩ : MethodName)) hown (mvT hZ (hw _ (List.mem_of_getElem? (i := 214) rfl))) (mvT hZ (hw _ (List.mem_of_getElem? (i := 215) rfl))) (mvT hZ (hw _ (List.mem_of_getElem? (i := 67) rfl))) (mvT hZ (hw _ (List.mem_of_getElem? (i := 216) rfl))) (by decide) (backOf (W := 0) (rmeat111 l Z a0 hw [] ea ka x0 x1 h0 n0 Z0 P3) hZ (hw _ (List.mem_of_getElem? (i := 216) rfl)) (hw _ (List.mem_of_getElem? (i := 67) rfl)) (by decide) (by decide)) (g := (mkF m 15 (LS_RR r0 ea) [(.int (1 : Int32)), (.ref ea)])) rfl (by rw [hml]; rfl) (argsL := [(.ref ea), (.int (1 : Int32))]) (rest := []) (lenOf pd___Ljava_lang_Object_I_Ljava_lang_Object_ rfl) rfl (by show 2 * 0 + _ ≤ _; exact Nat.le_of_eq rfl) (hb hby d34_15) (fun _ _ => ⟨rfl, e4, (by decide : 0 + 0 ≤ _), (by decide : 0 + 0 ≤ _)⟩)
  dsimp only [Pt.U, Pt.locs, Pt.cells, Pt.slots] at X5 l5 y5 z5 st5 hQ5
  subst l5 y5 z5
  obtain ⟨rfl, N5q, e5⟩ := hQ5
  have N5 := Fr.app N4 N5q
  refine own_go (B := T5.setTop (mkF m 18 (LS_RR r0 ea) [(.ref x1)])) (fun t k => st5 _ k) ?_
  obtain ⟨fs, hr, hrun, hended, hW, hsame⟩ := X5.leave (v := some (.ref x1)) (fun h => by rw [Bd.returns] at h; cases h) (BodyLoose.notSynchronized Bd)
  refine ⟨_, _, ?_, hrun, hended, _, _, rfl, ?_, ⟨_, rfl⟩, hW, hsame.mono (by decide) (by decide)⟩
  · show Steps p.tables e below (T5.setTop (mkF m 18 (LS_RR r0 ea) [(.ref x1)])) _
    exact retOut X5 hx Bd.returns rfl (Or.inr (Or.inr (Or.inr (Or.inr ⟨rfl, rfl, rfl⟩)))) (hb hby d34_18) hr
  · show QpeekLast11_0_2 Z r0 ea ka x0 x1 h0 n0 _ T5.heap _
    rw [e5]
    exact ⟨rfl, N5, rfl⟩
theorem ef_poll (m : MethodId) (r0 : Addr) : entryFrame m #[(.ref r0)] 4 = mkF m 0 #[.val (.ref r0), .unset, .unset, .unset] [] := by first | (simp [entryFrame, mkF, argsToLocals, Value.category]; done) | rfl
theorem pn_33 : plainName "java/util/ArrayDeque" = true := by first | (simp [plainName, overriddenIn]; done) | decide +kernel
abbrev LS_Ruuu (a0 : Addr) : Array Slot := #[.val (.ref a0), .unset, .unset, .unset]
theorem d33_0 : decode jdk_21_method_20_code 0 = .ok (.aload_n 0, 1) := by decide +kernel
theorem d33_1 : decode jdk_21_method_20_code 1 = .ok (.getfield 3, 3) := by decide +kernel
theorem d33_4 : decode jdk_21_method_20_code 4 = .ok (.dup, 1) := by decide +kernel
theorem d33_5 : decode jdk_21_method_20_code 5 = .ok (.astore_n 1, 1) := by decide +kernel
abbrev LS_RRuu (a0 : Addr) (a1 : Addr) : Array Slot := #[.val (.ref a0), .val (.ref a1), .unset, .unset]
theorem d33_6 : decode jdk_21_method_20_code 6 = .ok (.aload_n 0, 1) := by decide +kernel
theorem d33_7 : decode jdk_21_method_20_code 7 = .ok (.getfield 24, 3) := by decide +kernel
theorem d33_10 : decode jdk_21_method_20_code 10 = .ok (.dup, 1) := by decide +kernel
theorem d33_11 : decode jdk_21_method_20_code 11 = .ok (.istore_n 2, 1) := by decide +kernel
abbrev LS_RRIu (a0 : Addr) (a1 : Addr) (a2 : Int32) : Array Slot := #[.val (.ref a0), .val (.ref a1), .val (.int a2), .unset]
theorem d33_12 : decode jdk_21_method_20_code 12 = .ok (.invokestatic 103, 3) := by decide +kernel
theorem d33_15 : decode jdk_21_method_20_code 15 = .ok (.astore_n 3, 1) := by decide +kernel
abbrev LS_RRIR (a0 : Addr) (a1 : Addr) (a2 : Int32) (a3 : Addr) : Array Slot := #[.val (.ref a0), .val (.ref a1), .val (.int a2), .val (.ref a3)]
theorem d33_16 : decode jdk_21_method_20_code 16 = .ok (.aload_n 3, 1) := by decide +kernel
theorem d33_17 : decode jdk_21_method_20_code 17 = .ok (.ifnull 17, 3) := by decide +kernel
theorem d33_20 : decode jdk_21_method_20_code 20 = .ok (.aload_n 1, 1) := by decide +kernel
theorem d33_21 : decode jdk_21_method_20_code 21 = .ok (.iload_n 2, 1) := by decide +kernel
theorem d33_22 : decode jdk_21_method_20_code 22 = .ok (.aconst_null, 1) := by decide +kernel
theorem d33_23 : decode jdk_21_method_20_code 23 = .ok (.aastore, 1) := by decide +kernel
theorem d33_24 : decode jdk_21_method_20_code 24 = .ok (.aload_n 0, 1) := by decide +kernel
theorem d33_25 : decode jdk_21_method_20_code 25 = .ok (.iload_n 2, 1) := by decide +kernel
theorem d33_26 : decode jdk_21_method_20_code 26 = .ok (.aload_n 1, 1) := by decide +kernel
theorem d33_27 : decode jdk_21_method_20_code 27 = .ok (.arraylength, 1) := by decide +kernel
theorem d33_28 : decode jdk_21_method_20_code 28 = .ok (.invokestatic 74, 3) := by decide +kernel
theorem d33_31 : decode jdk_21_method_20_code 31 = .ok (.putfield 24, 3) := by decide +kernel
theorem d33_34 : decode jdk_21_method_20_code 34 = .ok (.aload_n 3, 1) := by decide +kernel
theorem d33_35 : decode jdk_21_method_20_code 35 = .ok (.areturn, 1) := by decide +kernel
def Qpoll (Z : State) (r0 : Addr) (ea : Addr) (ka : ClassId) (x0 : Addr) (h0 : Heap) (n0 : Nat) (v : Option Value) (h : Heap) (L : List Loc) : Prop := v = some (.ref x0) ∧ Fr n0 L ∧ Keep h0 h [r0, ea] ∧ Fld Z h r0 "java/util/ArrayDeque" "elements" "[Ljava/lang/Object;" (.ref ea) ∧ Fld Z h r0 "java/util/ArrayDeque" "head" "I" (.int (1 : Int32)) ∧ Fld Z h r0 "java/util/ArrayDeque" "tail" "I" (.int (1 : Int32)) ∧ Arv Z h ea ka (.object "java/lang/Object") (17 : Int32) [.null, .null, .null, .null, .null, .null, .null, .null, .null, .null, .null, .null, .null, .null, .null, .null, .null] .null
set_option maxRecDepth 65536 in
set_option maxHeartbeats 40000000 in
theorem rmpoll (l : Launch) (Z : State) (a0 : Array Value) (hw : ∀ d ∈ tables_1, d.before a0 Z = true) (ws : List Jvm.Cond) (r0 : Addr) (ea : Addr) (ka : ClassId) (x0 : Addr) (h0 : Heap) (n0 : Nat) (Z0 : n0 ≤ h0.size) (E0 : Exa Z h0 r0 "java/util/ArrayDeque") (P0 : Fld Z h0 r0 "java/util/ArrayDeque" "elements" "[Ljava/lang/Object;" (.ref ea)) (P1 : Fld Z h0 r0 "java/util/ArrayDeque" "head" "I" (.int (0 : Int32))) (P2 : Fld Z h0 r0 "java/util/ArrayDeque" "tail" "I" (.int (1 : Int32))) (P3 : Arv Z h0 ea ka (.object "java/lang/Object") (17 : Int32) [(.ref x0), .null, .null, .null, .null, .null, .null, .null, .null, .null, .null, .null, .null, .null, .null, .null, .null] .null) (Ov : Ovr Z ka "java/lang/Object") (g_r0 : n0 ≤ r0) (g_ea : n0 ≤ ea) :
    MetFree l (⟨"java/util/ArrayDeque", "pollFirst", "()Ljava/lang/Object;"⟩ : MethodName) (head1 (Jvm.Cond.code (⟨"java/util/ArrayDeque", "pollFirst", "()Ljava/lang/Object;"⟩ : MethodName) jdk_21_method_20_code 4 (some (.object "java/lang/Object")) :: ws) ({ frames := 1, cells := 0, slots := 0, locals := 20 } : Room)) (fun a U => a = #[(.ref r0)] ∧ Z.Warmed39 U.vm ∧ U.heap = h0) (fun _ _ _ _ _ => True) (fun _ U o U' => ∃ v L, o = .returned v ∧ Qpoll Z r0 ea ka x0 h0 n0 v U'.heap L ∧ FrameEnd U o U' L ({ frames := 1, cells := 0, slots := 0, locals := 20 } : Room).cells ({ frames := 1, cells := 0, slots := 0, locals := 20 } : Room).slots) := by
  refine MetFree.of_bodySF (plainFor_of_name pn_33) hisR ?_
  intro p e s m args below meth c s₁ Bd hml0 hP hK
  obtain ⟨rfl, hZ, hh⟩ := hP
  have hx := Bd.exec
  have hby := Bd.bytes
  have hml : c.maxLocals = 4 := hml0
  have hown : s.vm.findClass "java/util/ArrayDeque" = some m.cls := findClass_of_methodNamed Bd.named
  have hnm := (name_of_methodNamed Bd.named Bd.method).1
  have X0 : Stand p l e ({ frames := 1, cells := 0, slots := 0, locals := 20 } : Room) s m #[(.ref r0)] below meth c s₁ [] 0 0 := Stand.of_body Bd
  have e0 : s₁.heap = h0 := by rw [← hh, Bd.state]; rfl
  have N0 := Fr.nil n0
  refine own_go (B := s₁.setTop (mkF m 0 (LS_Ruuu r0) [])) (fun t k => castTop (ef_poll m r0) k) ?_
  have K0 : Keep h0 h0 [r0, ea] := Keep.refl _ _
  refine own_go (B := s₁.setTop (mkF m 1 (LS_Ruuu r0) [(.ref r0)])) (fun t k => ?_) ?_
  · show Steps p.tables e below (s₁.setTop (mkF m 0 (LS_Ruuu r0) [])) _
    refine XS.aloadN X0.here hx rfl (hb hby d33_0) rfl rfl ?_
    exact k
  obtain ⟨T1, X1, e1, st1⟩ := getF X0 hx hZ hown (host := "") (Or.inl (hw _ (List.mem_of_getElem? (i := 80) rfl))) Via.refl e0 P0 (g := (mkF m 1 (LS_Ruuu r0) [(.ref r0)])) rfl rfl (hb hby d33_1)
  refine own_go (B := T1.setTop (mkF m 4 (LS_Ruuu r0) [(.ref ea)])) (fun t k => st1 _ k) ?_
  refine own_go (B := T1.setTop (mkF m 7 (LS_RRuu r0 ea) [(.ref r0), (.ref ea)])) (fun t k => ?_) ?_
  · show Steps p.tables e below (T1.setTop (mkF m 4 (LS_Ruuu r0) [(.ref ea)])) _
    refine XS.dup X1.here hx rfl (hb hby d33_4) rfl rfl ?_
    show Steps p.tables e below (T1.setTop (mkF m 5 (LS_Ruuu r0) [(.ref ea), (.ref ea)])) _
    refine XS.astoreN X1.here hx rfl (hb hby d33_5) rfl rfl (l' := (LS_RRuu r0 ea)) rfl ?_
    show Steps p.tables e below (T1.setTop (mkF m 6 (LS_RRuu r0 ea) [(.ref ea)])) _
    refine XS.aloadN X1.here hx rfl (hb hby d33_6) rfl rfl ?_
    exact k
  obtain ⟨T2, X2, e2, st2⟩ := getF X1 hx hZ hown (host := "") (Or.inl (hw _ (List.mem_of_getElem? (i := 104) rfl))) Via.refl e1 P1 (g := (mkF m 7 (LS_RRuu r0 ea) [(.ref r0), (.ref ea)])) rfl rfl (hb hby d33_7)
  refine own_go (B := T2.setTop (mkF m 10 (LS_RRuu r0 ea) [(.int (0 : Int32)), (.ref ea)])) (fun t k => st2 _ k) ?_
  refine own_go (B := T2.setTop (mkF m 12 (LS_RRIu r0 ea (0 : Int32)) [(.int (0 : Int32)), (.ref ea)])) (fun t k => ?_) ?_
  · show Steps p.tables e below (T2.setTop (mkF m 10 (LS_RRuu r0 ea) [(.int (0 : Int32)), (.ref ea)])) _
    refine XS.dup X2.here hx rfl (hb hby d33_10) rfl rfl ?_
    show Steps p.tables e below (T2.setTop (mkF m 11 (LS_RRuu r0 ea) [(.int (0 : Int32)), (.int (0 : Int32)), (.ref ea)])) _
    refine XS.istoreN X2.here hx rfl (hb hby d33_11) rfl (l' := (LS_RRIu r0 ea (0 : Int32))) rfl ?_
    exact k
  obtain ⟨_, _, ⟨T3, L3, k3, n3⟩, -, X3, ⟨Lc3, hQ3, l3, y3, z3⟩, st3⟩ := Jvm.LawKit.callS X2 hx (y := (⟨"java/util/ArrayDeque", "elementAt", "([Ljava/lang/Object;I)Ljava/lang/Object;"⟩ : MethodName)) hown (mvT hZ (hw _ (List.mem_of_getElem? (i := 214) rfl))) (mvT hZ (hw _ (List.mem_of_getElem? (i := 215) rfl))) (mvT hZ (hw _ (List.mem_of_getElem? (i := 67) rfl))) (mvT hZ (hw _ (List.mem_of_getElem? (i := 216) rfl))) (by decide) (backOf (W := 0) (rmeat100 l Z a0 hw [] ea ka x0 h0 n0 Z0 P3) hZ (hw _ (List.mem_of_getElem? (i := 216) rfl)) (hw _ (List.mem_of_getElem? (i := 67) rfl)) (by decide) (by decide)) (g := (mkF m 12 (LS_RRIu r0 ea (0 : Int32)) [(.int (0 : Int32)), (.ref ea)])) rfl (by rw [hml]; rfl) (argsL := [(.ref ea), (.int (0 : Int32))]) (rest := []) (lenOf pd___Ljava_lang_Object_I_Ljava_lang_Object_ rfl) rfl (by show 2 * 0 + _ ≤ _; exact Nat.le_of_eq rfl) (hb hby d33_12) (fun _ _ => ⟨rfl, e2, (by decide : 0 + 0 ≤ _), (by decide : 0 + 0 ≤ _)⟩)
  dsimp only [Pt.U, Pt.locs, Pt.cells, Pt.slots] at X3 l3 y3 z3 st3 hQ3
  subst l3 y3 z3
  obtain ⟨rfl, N3q, e3⟩ := hQ3
  have N3 := Fr.app N0 N3q
  refine own_go (B := T3.setTop (mkF m 15 (LS_RRIu r0 ea (0 : Int32)) [(.ref x0)])) (fun t k => st3 _ k) ?_
  refine own_go (B := T3.setTop (mkF m 23 (LS_RRIR r0 ea (0 : Int32) x0) [.null, (.int (0 : Int32)), (.ref ea)])) (fun t k => ?_) ?_
  · show Steps p.tables e below (T3.setTop (mkF m 15 (LS_RRIu r0 ea (0 : Int32)) [(.ref x0)])) _
    refine XS.astoreN X3.here hx rfl (hb hby d33_15) rfl rfl (l' := (LS_RRIR r0 ea (0 : Int32) x0)) rfl ?_
    show Steps p.tables e below (T3.setTop (mkF m 16 (LS_RRIR r0 ea (0 : Int32) x0) [])) _
    refine XS.aloadN X3.here hx rfl (hb hby d33_16) rfl rfl ?_
    show Steps p.tables e below (T3.setTop (mkF m 17 (LS_RRIR r0 ea (0 : Int32) x0) [(.ref x0)])) _
    refine XS.ifnullNo X3.here hx rfl (hb hby d33_17) rfl ?_
    show Steps p.tables e below (T3.setTop (mkF m 20 (LS_RRIR r0 ea (0 : Int32) x0) [])) _
    refine XS.aloadN X3.here hx rfl (hb hby d33_20) rfl rfl ?_
    show Steps p.tables e below (T3.setTop (mkF m 21 (LS_RRIR r0 ea (0 : Int32) x0) [(.ref ea)])) _
    refine XS.iloadN X3.here hx rfl (hb hby d33_21) rfl ?_
    show Steps p.tables e below (T3.setTop (mkF m 22 (LS_RRIR r0 ea (0 : Int32) x0) [(.int (0 : Int32)), (.ref ea)])) _
    refine XS.aconstNull X3.here hx rfl (hb hby d33_22) ?_
    exact k
  obtain ⟨cl4, Ar4, qa4, Sa4, Na4, Ha4, Ga4⟩ := id P3
  have hin5 : ¬ ((0 : Int32) < 0 ∨ cl4.slots.size ≤ ((0 : Int32)).toNatClampNeg) := inb_of Sa4 ⟨by decide, by decide⟩
  obtain ⟨T5, h5, X5, e5, W5, st5⟩ := stR X3 hx hZ e3 Ar4 (j := (0 : Int32)) hin5 rfl (Or.inl rfl) (g := (mkF m 23 (LS_RRIR r0 ea (0 : Int32) x0) [.null, (.int (0 : Int32)), (.ref ea)])) rfl rfl (hb hby d33_23)
  have N5 := Fr.snoc X5 N3 g_ea
  have V5 : Arv Z h5 ea ka (.object "java/lang/Object") (17 : Int32) [.null, .null, .null, .null, .null, .null, .null, .null, .null, .null, .null, .null, .null, .null, .null, .null, .null] .null := Arv.set Ar4 qa4 Sa4 Na4 Ha4 Ga4 rfl W5 0 rfl (Nat.le_of_ble_eq_true rfl)
  refine own_go (B := T5.setTop (mkF m 24 (LS_RRIR r0 ea (0 : Int32) x0) [])) (fun t k => st5 _ k) ?_
  obtain ⟨cl6, Ar6, qa6, Sa6, Na6, Ha6, Ga6⟩ := id V5
  refine own_go (B := T5.setTop (mkF m 28 (LS_RRIR r0 ea (0 : Int32) x0) [(.int (17 : Int32)), (.int (0 : Int32)), (.ref r0)])) (fun t k => ?_) ?_
  · show Steps p.tables e below (T5.setTop (mkF m 24 (LS_RRIR r0 ea (0 : Int32) x0) [])) _
    refine XS.aloadN X5.here hx rfl (hb hby d33_24) rfl rfl ?_
    show Steps p.tables e below (T5.setTop (mkF m 25 (LS_RRIR r0 ea (0 : Int32) x0) [(.ref r0)])) _
    refine XS.iloadN X5.here hx rfl (hb hby d33_25) rfl ?_
    show Steps p.tables e below (T5.setTop (mkF m 26 (LS_RRIR r0 ea (0 : Int32) x0) [(.int (0 : Int32)), (.ref r0)])) _
    refine XS.aloadN X5.here hx rfl (hb hby d33_26) rfl rfl ?_
    show Steps p.tables e below (T5.setTop (mkF m 27 (LS_RRIR r0 ea (0 : Int32) x0) [(.ref ea), (.int (0 : Int32)), (.ref r0)])) _
    refine X5.arraylength hx (by rw [e5]; exact Ar6.1) (State.isArrayOf_alike hZ.alike Ar6.2.1) (g := (mkF m 27 (LS_RRIR r0 ea (0 : Int32) x0) [(.ref ea), (.int (0 : Int32)), (.ref r0)])) rfl rfl (hb hby d33_27) _ ?_
    rw [len_of Sa6 Na6]
    exact k
  have Z0_v7 := Nat.le_trans Z0 (Nat.le_of_eq W5.size.symm)
  obtain ⟨_, _, ⟨T8, L8, k8, n8⟩, -, X8, ⟨Lc8, hQ8, l8, y8, z8⟩, st8⟩ := Jvm.LawKit.callS X5 hx (y := (⟨"java/util/ArrayDeque", "inc", "(II)I"⟩ : MethodName)) hown (mvT hZ (hw _ (List.mem_of_getElem? (i := 152) rfl))) (mvT hZ (hw _ (List.mem_of_getElem? (i := 153) rfl))) (mvT hZ (hw _ (List.mem_of_getElem? (i := 67) rfl))) (mvT hZ (hw _ (List.mem_of_getElem? (i := 154) rfl))) (by decide) (backOf (W := 1) (rminc l Z a0 hw [] (0 : Int32) (17 : Int32) h5 n0 Z0_v7) hZ (hw _ (List.mem_of_getElem? (i := 154) rfl)) (hw _ (List.mem_of_getElem? (i := 67) rfl)) (by decide) (by decide)) (g := (mkF m 28 (LS_RRIR r0 ea (0 : Int32) x0) [(.int (17 : Int32)), (.int (0 : Int32)), (.ref r0)])) rfl (by rw [hml]; rfl) (argsL := [(.int (0 : Int32)), (.int (17 : Int32))]) (rest := [(.ref r0)]) (lenOf pd__II_I rfl) rfl (by show 2 * 0 + _ ≤ _; exact Nat.le_of_eq rfl) (hb hby d33_28) (fun _ _ => ⟨rfl, e5, (by decide : 0 + 0 ≤ _), (by decide : 0 + 0 ≤ _)⟩)
  dsimp only [Pt.U, Pt.locs, Pt.cells, Pt.slots] at X8 l8 y8 z8 st8 hQ8
  subst l8 y8 z8
  obtain ⟨rfl, N8q, e8⟩ := hQ8
  have N8 := Fr.app N5 N8q
  refine own_go (B := T8.setTop (mkF m 31 (LS_RRIR r0 ea (0 : Int32) x0) [(.int (if ((0 : Int32) + (1 : Int32)) < (17 : Int32) then ((0 : Int32) + (1 : Int32)) else (0 : Int32))), (.ref r0)])) (fun t k => st8 _ k) ?_
  rw [show (if ((0 : Int32) + (1 : Int32)) < (17 : Int32) then ((0 : Int32) + (1 : Int32)) else (0 : Int32)) = (1 : Int32) from by decide]
  have E0_v9 := E0.wr W5
  have ne11 : r0 ≠ ea := Exa.neArv E0_v9 V5 (hw _ (List.mem_of_getElem? (i := 66) rfl))
  have P1_v10 := P1.other W5 (Or.inl ne11)
  obtain ⟨T12, h12, X12, e12, W12, st12⟩ := putF X8 hx hZ hown (host := "") (Or.inl (hw _ (List.mem_of_getElem? (i := 104) rfl))) Via.refl e8 P1_v10 E0_v9 (Or.inl (hw _ (List.mem_of_getElem? (i := 105) rfl))) (hw _ (List.mem_of_getElem? (i := 66) rfl)) (ty := .int) (by decide) rfl rfl (g := (mkF m 31 (LS_RRIR r0 ea (0 : Int32) x0) [(.int (1 : Int32)), (.ref r0)])) rfl rfl (hb hby d33_31)
  have N12 := Fr.snoc X12 N8 g_r0
  have Fw12 := P1_v10.same W12
  refine own_go (B := T12.setTop (mkF m 34 (LS_RRIR r0 ea (0 : Int32) x0) [])) (fun t k => st12 _ k) ?_
  refine own_go (B := T12.setTop (mkF m 35 (LS_RRIR r0 ea (0 : Int32) x0) [(.ref x0)])) (fun t k => ?_) ?_
  · show Steps p.tables e below (T12.setTop (mkF m 34 (LS_RRIR r0 ea (0 : Int32) x0) [])) _
    refine XS.aloadN X12.here hx rfl (hb hby d33_34) rfl rfl ?_
    exact k
  obtain ⟨fs, hr, hrun, hended, hW, hsame⟩ := X12.leave (v := some (.ref x0)) (fun h => by rw [Bd.returns] at h; cases h) (BodyLoose.notSynchronized Bd)
  refine ⟨_, _, ?_, hrun, hended, _, _, rfl, ?_, ⟨_, rfl⟩, hW, hsame.mono (by decide) (by decide)⟩
  · show Steps p.tables e below (T12.setTop (mkF m 35 (LS_RRIR r0 ea (0 : Int32) x0) [(.ref x0)])) _
    exact retOut X12 hx Bd.returns rfl (Or.inr (Or.inr (Or.inr (Or.inr ⟨rfl, rfl, rfl⟩)))) (hb hby d33_35) hr
  · show Qpoll Z r0 ea ka x0 h0 n0 _ T12.heap _
    rw [e12]
    have K0_v13 := K0.wr W5 (Or.inl (List.mem_of_getElem? (i := 1) rfl))
    have K0_v14 := K0_v13.wr W12 (Or.inl (List.mem_of_getElem? (i := 0) rfl))
    have P0_v15 := P0.other W5 (Or.inl ne11)
    have P0_v16 := P0_v15.other W12 (Or.inr (slot_ne (Or.inl (hw _ (List.mem_of_getElem? (i := 81) rfl))) (Or.inl (hw _ (List.mem_of_getElem? (i := 105) rfl))) (by decide) (t := (.array (.object "java/lang/Object"))) (t' := .int) (by decide) (by decide)))
    have P2_v17 := P2.other W5 (Or.inl ne11)
    have P2_v18 := P2_v17.other W12 (Or.inr (slot_ne (Or.inl (hw _ (List.mem_of_getElem? (i := 107) rfl))) (Or.inl (hw _ (List.mem_of_getElem? (i := 105) rfl))) (by decide) (t := .int) (t' := .int) (by decide) (by decide)))
    have V5_v19 := V5.other W12 (Ne.symm ne11)
    exact ⟨rfl, N12, K0_v14, P0_v16, Fw12, P2_v18, V5_v19⟩
theorem ef_rmvf (m : MethodId) (r0 : Addr) : entryFrame m #[(.ref r0)] 2 = mkF m 0 #[.val (.ref r0), .unset] [] := by first | (simp [entryFrame, mkF, argsToLocals, Value.category]; done) | rfl
theorem pn_32 : plainName "java/util/ArrayDeque" = true := by first | (simp [plainName, overriddenIn]; done) | decide +kernel
theorem d32_0 : decode jdk_21_method_18_code 0 = .ok (.aload_n 0, 1) := by decide +kernel
theorem d32_1 : decode jdk_21_method_18_code 1 = .ok (.invokevirtual 93, 3) := by decide +kernel
theorem pd___Ljava_lang_Object_ : parseMethodDescriptor "()Ljava/lang/Object;" = some ⟨[], some (.object "java/lang/Object")⟩ := by decide +kernel
theorem d32_4 : decode jdk_21_method_18_code 4 = .ok (.astore_n 1, 1) := by decide +kernel
theorem d32_5 : decode jdk_21_method_18_code 5 = .ok (.aload_n 1, 1) := by decide +kernel
theorem d32_6 : decode jdk_21_method_18_code 6 = .ok (.ifnonnull 11, 3) := by decide +kernel
theorem d32_17 : decode jdk_21_method_18_code 17 = .ok (.aload_n 1, 1) := by decide +kernel
theorem d32_18 : decode jdk_21_method_18_code 18 = .ok (.areturn, 1) := by decide +kernel
def Qrmvf (Z : State) (r0 : Addr) (ea : Addr) (ka : ClassId) (x0 : Addr) (h0 : Heap) (n0 : Nat) (v : Option Value) (h : Heap) (L : List Loc) : Prop := v = some (.ref x0) ∧ Fr n0 L ∧ Keep h0 h [r0, ea] ∧ Fld Z h r0 "java/util/ArrayDeque" "elements" "[Ljava/lang/Object;" (.ref ea) ∧ Fld Z h r0 "java/util/ArrayDeque" "head" "I" (.int (1 : Int32)) ∧ Fld Z h r0 "java/util/ArrayDeque" "tail" "I" (.int (1 : Int32)) ∧ Arv Z h ea ka (.object "java/lang/Object") (17 : Int32) [.null, .null, .null, .null, .null, .null, .null, .null, .null, .null, .null, .null, .null, .null, .null, .null, .null] .null
set_option maxRecDepth 65536 in
set_option maxHeartbeats 40000000 in
theorem rmrmvf (l : Launch) (Z : State) (a0 : Array Value) (hw : ∀ d ∈ tables_1, d.before a0 Z = true) (ws : List Jvm.Cond) (r0 : Addr) (ea : Addr) (ka : ClassId) (x0 : Addr) (h0 : Heap) (n0 : Nat) (Z0 : n0 ≤ h0.size) (E0 : Exa Z h0 r0 "java/util/ArrayDeque") (P0 : Fld Z h0 r0 "java/util/ArrayDeque" "elements" "[Ljava/lang/Object;" (.ref ea)) (P1 : Fld Z h0 r0 "java/util/ArrayDeque" "head" "I" (.int (0 : Int32))) (P2 : Fld Z h0 r0 "java/util/ArrayDeque" "tail" "I" (.int (1 : Int32))) (P3 : Arv Z h0 ea ka (.object "java/lang/Object") (17 : Int32) [(.ref x0), .null, .null, .null, .null, .null, .null, .null, .null, .null, .null, .null, .null, .null, .null, .null, .null] .null) (Ov : Ovr Z ka "java/lang/Object") (g_r0 : n0 ≤ r0) (g_ea : n0 ≤ ea) :
    MetFree l (⟨"java/util/ArrayDeque", "removeFirst", "()Ljava/lang/Object;"⟩ : MethodName) (head1 (Jvm.Cond.code (⟨"java/util/ArrayDeque", "removeFirst", "()Ljava/lang/Object;"⟩ : MethodName) jdk_21_method_18_code 2 (some (.object "java/lang/Object")) :: ws) ({ frames := 2, cells := 0, slots := 0, locals := 40 } : Room)) (fun a U => a = #[(.ref r0)] ∧ Z.Warmed39 U.vm ∧ U.heap = h0) (fun _ _ _ _ _ => True) (fun _ U o U' => ∃ v L, o = .returned v ∧ Qrmvf Z r0 ea ka x0 h0 n0 v U'.heap L ∧ FrameEnd U o U' L ({ frames := 2, cells := 0, slots := 0, locals := 40 } : Room).cells ({ frames := 2, cells := 0, slots := 0, locals := 40 } : Room).slots) := by
  refine MetFree.of_bodySF (plainFor_of_name pn_32) hisR ?_
  intro p e s m args below meth c s₁ Bd hml0 hP hK
  obtain ⟨rfl, hZ, hh⟩ := hP
  have hx := Bd.exec
  have hby := Bd.bytes
  have hml : c.maxLocals = 2 := hml0
  have hown : s.vm.findClass "java/util/ArrayDeque" = some m.cls := findClass_of_methodNamed Bd.named
  have hnm := (name_of_methodNamed Bd.named Bd.method).1
  have X0 : Stand p l e ({ frames := 2, cells := 0, slots := 0, locals := 40 } : Room) s m #[(.ref r0)] below meth c s₁ [] 0 0 := Stand.of_body Bd
  have e0 : s₁.heap = h0 := by rw [← hh, Bd.state]; rfl
  have N0 := Fr.nil n0
  refine own_go (B := s₁.setTop (mkF m 0 (LS_Ru r0) [])) (fun t k => castTop (ef_rmvf m r0) k) ?_
  have K0 : Keep h0 h0 [r0, ea] := Keep.refl _ _
  refine own_go (B := s₁.setTop (mkF m 1 (LS_Ru r0) [(.ref r0)])) (fun t k => ?_) ?_
  · show Steps p.tables e below (s₁.setTop (mkF m 0 (LS_Ru r0) [])) _
    refine XS.aloadN X0.here hx rfl (hb hby d32_0) rfl rfl ?_
    exact k
  obtain ⟨cq1, kq1, q1a, q1b, q1c⟩ := isOf hZ e0 E0
  obtain ⟨_, _, ⟨T1, L1, k1, n1⟩, -, X1, ⟨Lc1, hQ1, l1, y1, z1⟩, st1⟩ := X0.virtualBack hx (y := (⟨"java/util/ArrayDeque", "pollFirst", "()Ljava/lang/Object;"⟩ : MethodName)) (z := (⟨"java/util/ArrayDeque", "pollFirst", "()Ljava/lang/Object;"⟩ : MethodName)) hown (mvT hZ (hw _ (List.mem_of_getElem? (i := 228) rfl))) (mvT hZ (hw _ (List.mem_of_getElem? (i := 229) rfl))) (notFace_of_selects (args := #[]) (mvT hZ (hw _ (List.mem_of_getElem? (i := 231) rfl)))) (mvT hZ (hw _ (List.mem_of_getElem? (i := 231) rfl))) (mvT hZ (hw _ (List.mem_of_getElem? (i := 230) rfl))) (by decide) (backOf (W := 0) (rmpoll l Z a0 hw [] r0 ea ka x0 h0 n0 Z0 E0 P0 P1 P2 P3 Ov g_r0 g_ea) hZ (hw _ (List.mem_of_getElem? (i := 232) rfl)) (hw _ (List.mem_of_getElem? (i := 67) rfl)) (by decide) (by decide)) q1a q1c (g := (mkF m 1 (LS_Ru r0) [(.ref r0)])) rfl (by rw [hml]; rfl) (Steps.refl _) (argsL := []) (rest := []) (lenOf pd___Ljava_lang_Object_ rfl) rfl (by show 2 * 0 + _ ≤ _; exact Nat.le_of_eq rfl) (hb hby d32_1) (fun _ _ => ⟨rfl, e0, (by decide : 0 + 0 ≤ _), (by decide : 0 + 0 ≤ _)⟩)
  dsimp only [Pt.U, Pt.locs, Pt.cells, Pt.slots] at X1 l1 y1 z1 st1 hQ1
  subst l1 y1 z1
  obtain ⟨rfl, N1q, K1, Fe1, Fh1, Ft1, Va1⟩ := hQ1
  have N1 := Fr.app N0 N1q
  refine own_go (B := T1.setTop (mkF m 4 (LS_Ru r0) [(.ref x0)])) (fun t k => st1.trans k) ?_
  refine own_go (B := T1.setTop (mkF m 18 (LS_RR r0 x0) [(.ref x0)])) (fun t k => ?_) ?_
  · show Steps p.tables e below (T1.setTop (mkF m 4 (LS_Ru r0) [(.ref x0)])) _
    refine XS.astoreN X1.here hx rfl (hb hby d32_4) rfl rfl (l' := (LS_RR r0 x0)) rfl ?_
    show Steps p.tables e below (T1.setTop (mkF m 5 (LS_RR r0 x0) [])) _
    refine XS.aloadN X1.here hx rfl (hb hby d32_5) rfl rfl ?_
    show Steps p.tables e below (T1.setTop (mkF m 6 (LS_RR r0 x0) [(.ref x0)])) _
    refine XS.ifnonnullYes X1.here hx rfl (pc0 := 6) (pc' := 17) rfl (hb hby d32_6) rfl (by decide) (by decide) ?_
    show Steps p.tables e below (T1.setTop (mkF m 17 (LS_RR r0 x0) [])) _
    refine XS.aloadN X1.here hx rfl (hb hby d32_17) rfl rfl ?_
    exact k
  obtain ⟨fs, hr, hrun, hended, hW, hsame⟩ := X1.leave (v := some (.ref x0)) (fun h => by rw [Bd.returns] at h; cases h) (BodyLoose.notSynchronized Bd)
  refine ⟨_, _, ?_, hrun, hended, _, _, rfl, ?_, ⟨_, rfl⟩, hW, hsame.mono (by decide) (by decide)⟩
  · show Steps p.tables e below (T1.setTop (mkF m 18 (LS_RR r0 x0) [(.ref x0)])) _
    exact retOut X1 hx Bd.returns rfl (Or.inr (Or.inr (Or.inr (Or.inr ⟨rfl, rfl, rfl⟩)))) (hb hby d32_18) hr
  · show Qrmvf Z r0 ea ka x0 h0 n0 _ T1.heap _
    have K0_v2 := K0.trans K1 (allS (Or.inl (List.mem_of_getElem? (i := 0) rfl)) (allS (Or.inl (List.mem_of_getElem? (i := 1) rfl)) all0))
    exact ⟨rfl, N1, K0_v2, Fe1, Fh1, Ft1, Va1⟩
theorem ef_addl00_0_0 (m : MethodId) (r0 : Addr) (r1 : Addr) : entryFrame m #[(.ref r0), (.ref r1)] 3 = mkF m 0 #[.val (.ref r0), .val (.ref r1), .unset] [] := by first | (simp [entryFrame, mkF, argsToLocals, Value.category]; done) | rfl
theorem pn_20 : plainName "java/util/ArrayDeque" = true := by first | (simp [plainName, overriddenIn]; done) | decide +kernel
abbrev LS_RRu (a0 : Addr) (a1 : Addr) : Array Slot := #[.val (.ref a0), .val (.ref a1), .unset]
theorem d20_0 : decode jdk_21_method_13_code 0 = .ok (.aload_n 1, 1) := by decide +kernel
theorem d20_1 : decode jdk_21_method_13_code 1 = .ok (.ifnonnull 11, 3) := by decide +kernel
theorem d20_12 : decode jdk_21_method_13_code 12 = .ok (.aload_n 0, 1) := by decide +kernel
theorem d20_13 : decode jdk_21_method_13_code 13 = .ok (.getfield 3, 3) := by decide +kernel
theorem d20_16 : decode jdk_21_method_13_code 16 = .ok (.astore_n 2, 1) := by decide +kernel
abbrev LS_RRR (a0 : Addr) (a1 : Addr) (a2 : Addr) : Array Slot := #[.val (.ref a0), .val (.ref a1), .val (.ref a2)]
theorem d20_17 : decode jdk_21_method_13_code 17 = .ok (.aload_n 2, 1) := by decide +kernel
theorem d20_18 : decode jdk_21_method_13_code 18 = .ok (.aload_n 0, 1) := by decide +kernel
theorem d20_19 : decode jdk_21_method_13_code 19 = .ok (.getfield 20, 3) := by decide +kernel
theorem d20_22 : decode jdk_21_method_13_code 22 = .ok (.aload_n 1, 1) := by decide +kernel
theorem d20_23 : decode jdk_21_method_13_code 23 = .ok (.aastore, 1) := by decide +kernel
theorem d20_24 : decode jdk_21_method_13_code 24 = .ok (.aload_n 0, 1) := by decide +kernel
theorem d20_25 : decode jdk_21_method_13_code 25 = .ok (.getfield 24, 3) := by decide +kernel
theorem d20_28 : decode jdk_21_method_13_code 28 = .ok (.aload_n 0, 1) := by decide +kernel
theorem d20_29 : decode jdk_21_method_13_code 29 = .ok (.aload_n 0, 1) := by decide +kernel
theorem d20_30 : decode jdk_21_method_13_code 30 = .ok (.getfield 20, 3) := by decide +kernel
theorem d20_33 : decode jdk_21_method_13_code 33 = .ok (.aload_n 2, 1) := by decide +kernel
theorem d20_34 : decode jdk_21_method_13_code 34 = .ok (.arraylength, 1) := by decide +kernel
theorem d20_35 : decode jdk_21_method_13_code 35 = .ok (.invokestatic 74, 3) := by decide +kernel
theorem d20_38 : decode jdk_21_method_13_code 38 = .ok (.dup_x1, 1) := by decide +kernel
theorem d20_39 : decode jdk_21_method_13_code 39 = .ok (.putfield 20, 3) := by decide +kernel
theorem d20_42 : decode jdk_21_method_13_code 42 = .ok (.if_icmp .ne 8, 3) := by decide +kernel
theorem d20_50 : decode jdk_21_method_13_code 50 = .ok (.return_, 1) := by decide +kernel
def Qaddl00_0_0 (Z : State) (r0 : Addr) (r1 : Addr) (ea : Addr) (ka : ClassId) (h0 : Heap) (n0 : Nat) (v : Option Value) (h : Heap) (L : List Loc) : Prop := v = none ∧ Fr n0 L ∧ Keep h0 h [r0, ea] ∧ Fld Z h r0 "java/util/ArrayDeque" "elements" "[Ljava/lang/Object;" (.ref ea) ∧ Fld Z h r0 "java/util/ArrayDeque" "head" "I" (.int (0 : Int32)) ∧ Fld Z h r0 "java/util/ArrayDeque" "tail" "I" (.int (1 : Int32)) ∧ Arv Z h ea ka (.object "java/lang/Object") (17 : Int32) [(.ref r1), .null, .null, .null, .null, .null, .null, .null, .null, .null, .null, .null, .null, .null, .null, .null, .null] .null
set_option maxRecDepth 65536 in
set_option maxHeartbeats 40000000 in
theorem rmaddl00_0_0 (l : Launch) (Z : State) (a0 : Array Value) (hw : ∀ d ∈ tables_1, d.before a0 Z = true) (ws : List Jvm.Cond) (r0 : Addr) (r1 : Addr) (ea : Addr) (ka : ClassId) (h0 : Heap) (n0 : Nat) (Z0 : n0 ≤ h0.size) (E0 : Exa Z h0 r0 "java/util/ArrayDeque") (P0 : Fld Z h0 r0 "java/util/ArrayDeque" "elements" "[Ljava/lang/Object;" (.ref ea)) (P1 : Fld Z h0 r0 "java/util/ArrayDeque" "head" "I" (.int (0 : Int32))) (P2 : Fld Z h0 r0 "java/util/ArrayDeque" "tail" "I" (.int (0 : Int32))) (P3 : Arv Z h0 ea ka (.object "java/lang/Object") (17 : Int32) [.null, .null, .null, .null, .null, .null, .null, .null, .null, .null, .null, .null, .null, .null, .null, .null, .null] .null) (Ov : Ovr Z ka "java/lang/Object") (g_r0 : n0 ≤ r0) (g_ea : n0 ≤ ea) (El : Exa Z h0 r1 "java/lang/Long") :
    MetFree l (⟨"java/util/ArrayDeque", "addLast", "(Ljava/lang/Object;)V"⟩ : MethodName) (head1 (Jvm.Cond.code (⟨"java/util/ArrayDeque", "addLast", "(Ljava/lang/Object;)V"⟩ : MethodName) jdk_21_method_13_code 3 none :: ws) ({ frames := 1, cells := 0, slots := 0, locals := 20 } : Room)) (fun a U => a = #[(.ref r0), (.ref r1)] ∧ Z.Warmed39 U.vm ∧ U.heap = h0) (fun _ _ _ _ _ => True) (fun _ U o U' => ∃ v L, o = .returned v ∧ Qaddl00_0_0 Z r0 r1 ea ka h0 n0 v U'.heap L ∧ FrameEnd U o U' L ({ frames := 1, cells := 0, slots := 0, locals := 20 } : Room).cells ({ frames := 1, cells := 0, slots := 0, locals := 20 } : Room).slots) := by
  refine MetFree.of_bodySF (plainFor_of_name pn_20) hisR ?_
  intro p e s m args below meth c s₁ Bd hml0 hP hK
  obtain ⟨rfl, hZ, hh⟩ := hP
  have hx := Bd.exec
  have hby := Bd.bytes
  have hml : c.maxLocals = 3 := hml0
  have hown : s.vm.findClass "java/util/ArrayDeque" = some m.cls := findClass_of_methodNamed Bd.named
  have hnm := (name_of_methodNamed Bd.named Bd.method).1
  have X0 : Stand p l e ({ frames := 1, cells := 0, slots := 0, locals := 20 } : Room) s m #[(.ref r0), (.ref r1)] below meth c s₁ [] 0 0 := Stand.of_body Bd
  have e0 : s₁.heap = h0 := by rw [← hh, Bd.state]; rfl
  have N0 := Fr.nil n0
  refine own_go (B := s₁.setTop (mkF m 0 (LS_RRu r0 r1) [])) (fun t k => castTop (ef_addl00_0_0 m r0 r1) k) ?_
  have K0 : Keep h0 h0 [r0, ea] := Keep.refl _ _
  refine own_go (B := s₁.setTop (mkF m 13 (LS_RRu r0 r1) [(.ref r0)])) (fun t k => ?_) ?_
  · show Steps p.tables e below (s₁.setTop (mkF m 0 (LS_RRu r0 r1) [])) _
    refine XS.aloadN X0.here hx rfl (hb hby d20_0) rfl rfl ?_
    show Steps p.tables e below (s₁.setTop (mkF m 1 (LS_RRu r0 r1) [(.ref r1)])) _
    refine XS.ifnonnullYes X0.here hx rfl (pc0 := 1) (pc' := 12) rfl (hb hby d20_1) rfl (by decide) (by decide) ?_
    show Steps p.tables e below (s₁.setTop (mkF m 12 (LS_RRu r0 r1) [])) _
    refine XS.aloadN X0.here hx rfl (hb hby d20_12) rfl rfl ?_
    exact k
  obtain ⟨T1, X1, e1, st1⟩ := getF X0 hx hZ hown (host := "") (Or.inl (hw _ (List.mem_of_getElem? (i := 80) rfl))) Via.refl e0 P0 (g := (mkF m 13 (LS_RRu r0 r1) [(.ref r0)])) rfl rfl (hb hby d20_13)
  refine own_go (B := T1.setTop (mkF m 16 (LS_RRu r0 r1) [(.ref ea)])) (fun t k => st1 _ k) ?_
  refine own_go (B := T1.setTop (mkF m 19 (LS_RRR r0 r1 ea) [(.ref r0), (.ref ea)])) (fun t k => ?_) ?_
  · show Steps p.tables e below (T1.setTop (mkF m 16 (LS_RRu r0 r1) [(.ref ea)])) _
    refine XS.astoreN X1.here hx rfl (hb hby d20_16) rfl rfl (l' := (LS_RRR r0 r1 ea)) rfl ?_
    show Steps p.tables e below (T1.setTop (mkF m 17 (LS_RRR r0 r1 ea) [])) _
    refine XS.aloadN X1.here hx rfl (hb hby d20_17) rfl rfl ?_
    show Steps p.tables e below (T1.setTop (mkF m 18 (LS_RRR r0 r1 ea) [(.ref ea)])) _
    refine XS.aloadN X1.here hx rfl (hb hby d20_18) rfl rfl ?_
    exact k
  obtain ⟨T2, X2, e2, st2⟩ := getF X1 hx hZ hown (host := "") (Or.inl (hw _ (List.mem_of_getElem? (i := 106) rfl))) Via.refl e1 P2 (g := (mkF m 19 (LS_RRR r0 r1 ea) [(.ref r0), (.ref ea)])) rfl rfl (hb hby d20_19)
  refine own_go (B := T2.setTop (mkF m 22 (LS_RRR r0 r1 ea) [(.int (0 : Int32)), (.ref ea)])) (fun t k => st2 _ k) ?_
  refine own_go (B := T2.setTop (mkF m 23 (LS_RRR r0 r1 ea) [(.ref r1), (.int (0 : Int32)), (.ref ea)])) (fun t k => ?_) ?_
  · show Steps p.tables e below (T2.setTop (mkF m 22 (LS_RRR r0 r1 ea) [(.int (0 : Int32)), (.ref ea)])) _
    refine XS.aloadN X2.here hx rfl (hb hby d20_22) rfl rfl ?_
    exact k
  obtain ⟨cl3, Ar3, qa3, Sa3, Na3, Ha3, Ga3⟩ := id P3
  have hin4 : ¬ ((0 : Int32) < 0 ∨ cl3.slots.size ≤ ((0 : Int32)).toNatClampNeg) := inb_of Sa3 ⟨by decide, by decide⟩
  obtain ⟨T4, h4, X4, e4, W4, st4⟩ := stR X2 hx hZ e2 Ar3 (j := (0 : Int32)) hin4 rfl (Sto.ofV Ar3 qa3 Ov (Ins.of_exa El (hw _ (List.mem_of_getElem? (i := 151) rfl)))) (g := (mkF m 23 (LS_RRR r0 r1 ea) [(.ref r1), (.int (0 : Int32)), (.ref ea)])) rfl rfl (hb hby d20_23)
  have N4 := Fr.snoc X4 N0 g_ea
  have V4 : Arv Z h4 ea ka (.object "java/lang/Object") (17 : Int32) [(.ref r1), .null, .null, .null, .null, .null, .null, .null, .null, .null, .null, .null, .null, .null, .null, .null, .null] .null := Arv.set Ar3 qa3 Sa3 Na3 Ha3 Ga3 rfl W4 0 rfl (Nat.le_of_ble_eq_true rfl)
  refine own_go (B := T4.setTop (mkF m 24 (LS_RRR r0 r1 ea) [])) (fun t k => st4 _ k) ?_
  have E0_v7 := E0.wr W4
  have ne6 : r0 ≠ ea := Exa.neArv E0_v7 V4 (hw _ (List.mem_of_getElem? (i := 66) rfl))
  have P1_v5 := P1.other W4 (Or.inl ne6)
  refine own_go (B := T4.setTop (mkF m 25 (LS_RRR r0 r1 ea) [(.ref r0)])) (fun t k => ?_) ?_
  · show Steps p.tables e below (T4.setTop (mkF m 24 (LS_RRR r0 r1 ea) [])) _
    refine XS.aloadN X4.here hx rfl (hb hby d20_24) rfl rfl ?_
    exact k
  obtain ⟨T8, X8, e8, st8⟩ := getF X4 hx hZ hown (host := "") (Or.inl (hw _ (List.mem_of_getElem? (i := 104) rfl))) Via.refl e4 P1_v5 (g := (mkF m 25 (LS_RRR r0 r1 ea) [(.ref r0)])) rfl rfl (hb hby d20_25)
  refine own_go (B := T8.setTop (mkF m 28 (LS_RRR r0 r1 ea) [(.int (0 : Int32))])) (fun t k => st8 _ k) ?_
  have P2_v9 := P2.other W4 (Or.inl ne6)
  refine own_go (B := T8.setTop (mkF m 30 (LS_RRR r0 r1 ea) [(.ref r0), (.ref r0), (.int (0 : Int32))])) (fun t k => ?_) ?_
  · show Steps p.tables e below (T8.setTop (mkF m 28 (LS_RRR r0 r1 ea) [(.int (0 : Int32))])) _
    refine XS.aloadN X8.here hx rfl (hb hby d20_28) rfl rfl ?_
    show Steps p.tables e below (T8.setTop (mkF m 29 (LS_RRR r0 r1 ea) [(.ref r0), (.int (0 : Int32))])) _
    refine XS.aloadN X8.here hx rfl (hb hby d20_29) rfl rfl ?_
    exact k
  obtain ⟨T10, X10, e10, st10⟩ := getF X8 hx hZ hown (host := "") (Or.inl (hw _ (List.mem_of_getElem? (i := 106) rfl))) Via.refl e8 P2_v9 (g := (mkF m 30 (LS_RRR r0 r1 ea) [(.ref r0), (.ref r0), (.int (0 : Int32))])) rfl rfl (hb hby d20_30)
  refine own_go (B := T10.setTop (mkF m 33 (LS_RRR r0 r1 ea) [(.int (0 : Int32)), (.ref r0), (.int (0 : Int32))])) (fun t k => st10 _ k) ?_
  obtain ⟨cl11, Ar11, qa11, Sa11, Na11, Ha11, Ga11⟩ := id V4
  refine own_go (B := T10.setTop (mkF m 35 (LS_RRR r0 r1 ea) [(.int (17 : Int32)), (.int (0 : Int32)), (.ref r0), (.int (0 : Int32))])) (fun t k => ?_) ?_
  · show Steps p.tables e below (T10.setTop (mkF m 33 (LS_RRR r0 r1 ea) [(.int (0 : Int32)), (.ref r0), (.int (0 : Int32))])) _
    refine XS.aloadN X10.here hx rfl (hb hby d20_33) rfl rfl ?_
    show Steps p.tables e below (T10.setTop (mkF m 34 (LS_RRR r0 r1 ea) [(.ref ea), (.int (0 : Int32)), (.ref r0), (.int (0 : Int32))])) _
    refine X10.arraylength hx (by rw [e10]; exact Ar11.1) (State.isArrayOf_alike hZ.alike Ar11.2.1) (g := (mkF m 34 (LS_RRR r0 r1 ea) [(.ref ea), (.int (0 : Int32)), (.ref r0), (.int (0 : Int32))])) rfl rfl (hb hby d20_34) _ ?_
    rw [len_of Sa11 Na11]
    exact k
  have Z0_v12 := Nat.le_trans Z0 (Nat.le_of_eq W4.size.symm)
  obtain ⟨_, _, ⟨T13, L13, k13, n13⟩, -, X13, ⟨Lc13, hQ13, l13, y13, z13⟩, st13⟩ := Jvm.LawKit.callS X10 hx (y := (⟨"java/util/ArrayDeque", "inc", "(II)I"⟩ : MethodName)) hown (mvT hZ (hw _ (List.mem_of_getElem? (i := 152) rfl))) (mvT hZ (hw _ (List.mem_of_getElem? (i := 153) rfl))) (mvT hZ (hw _ (List.mem_of_getElem? (i := 67) rfl))) (mvT hZ (hw _ (List.mem_of_getElem? (i := 154) rfl))) (by decide) (backOf (W := 2) (rminc l Z a0 hw [] (0 : Int32) (17 : Int32) h4 n0 Z0_v12) hZ (hw _ (List.mem_of_getElem? (i := 154) rfl)) (hw _ (List.mem_of_getElem? (i := 67) rfl)) (by decide) (by decide)) (g := (mkF m 35 (LS_RRR r0 r1 ea) [(.int (17 : Int32)), (.int (0 : Int32)), (.ref r0), (.int (0 : Int32))])) rfl (by rw [hml]; rfl) (argsL := [(.int (0 : Int32)), (.int (17 : Int32))]) (rest := [(.ref r0), (.int (0 : Int32))]) (lenOf pd__II_I rfl) rfl (by show 2 * 0 + _ ≤ _; exact Nat.le_of_eq rfl) (hb hby d20_35) (fun _ _ => ⟨rfl, e10, (by decide : 0 + 0 ≤ _), (by decide : 0 + 0 ≤ _)⟩)
  dsimp only [Pt.U, Pt.locs, Pt.cells, Pt.slots] at X13 l13 y13 z13 st13 hQ13
  subst l13 y13 z13
  obtain ⟨rfl, N13q, e13⟩ := hQ13
  have N13 := Fr.app N4 N13q
  refine own_go (B := T13.setTop (mkF m 38 (LS_RRR r0 r1 ea) [(.int (if ((0 : Int32) + (1 : Int32)) < (17 : Int32) then ((0 : Int32) + (1 : Int32)) else (0 : Int32))), (.ref r0), (.int (0 : Int32))])) (fun t k => st13 _ k) ?_
  rw [show (if ((0 : Int32) + (1 : Int32)) < (17 : Int32) then ((0 : Int32) + (1 : Int32)) else (0 : Int32)) = (1 : Int32) from by decide]
  refine own_go (B := T13.setTop (mkF m 39 (LS_RRR r0 r1 ea) [(.int (1 : Int32)), (.ref r0), (.int (1 : Int32)), (.int (0 : Int32))])) (fun t k => ?_) ?_
  · show Steps p.tables e below (T13.setTop (mkF m 38 (LS_RRR r0 r1 ea) [(.int (1 : Int32)), (.ref r0), (.int (0 : Int32))])) _
    refine XS.dupX1 X13.here hx rfl (hb hby d20_38) rfl rfl rfl ?_
    exact k
  obtain ⟨T14, h14, X14, e14, W14, st14⟩ := putF X13 hx hZ hown (host := "") (Or.inl (hw _ (List.mem_of_getElem? (i := 106) rfl))) Via.refl e13 P2_v9 E0_v7 (Or.inl (hw _ (List.mem_of_getElem? (i := 107) rfl))) (hw _ (List.mem_of_getElem? (i := 66) rfl)) (ty := .int) (by decide) rfl rfl (g := (mkF m 39 (LS_RRR r0 r1 ea) [(.int (1 : Int32)), (.ref r0), (.int (1 : Int32)), (.int (0 : Int32))])) rfl rfl (hb hby d20_39)
  have N14 := Fr.snoc X14 N13 g_r0
  have Fw14 := P2_v9.same W14
  refine own_go (B := T14.setTop (mkF m 42 (LS_RRR r0 r1 ea) [(.int (1 : Int32)), (.int (0 : Int32))])) (fun t k => st14 _ k) ?_
  refine own_go (B := T14.setTop (mkF m 50 (LS_RRR r0 r1 ea) [])) (fun t k => ?_) ?_
  · show Steps p.tables e below (T14.setTop (mkF m 42 (LS_RRR r0 r1 ea) [(.int (1 : Int32)), (.int (0 : Int32))])) _
    refine XS.icmpYes X14.here hx rfl (pc0 := 42) (pc' := 50) rfl (hb hby d20_42) rfl (feq (by decide : ¬ ((0 : Int32) = (1 : Int32)))).2 (by decide) (by decide) ?_
    exact k
  obtain ⟨fs, hr, hrun, hended, hW, hsame⟩ := X14.leave (v := none) (fun _ => rfl) (BodyLoose.notSynchronized Bd)
  refine ⟨_, _, ?_, hrun, hended, _, _, rfl, ?_, ⟨_, rfl⟩, hW, hsame.mono (by decide) (by decide)⟩
  · show Steps p.tables e below (T14.setTop (mkF m 50 (LS_RRR r0 r1 ea) [])) _
    exact X14.returnOut hx Bd.returns (hb hby d20_50) hr
  · show Qaddl00_0_0 Z r0 r1 ea ka h0 n0 _ T14.heap _
    rw [e14]
    have K0_v15 := K0.wr W4 (Or.inl (List.mem_of_getElem? (i := 1) rfl))
    have K0_v16 := K0_v15.wr W14 (Or.inl (List.mem_of_getElem? (i := 0) rfl))
    have P0_v17 := P0.other W4 (Or.inl ne6)
    have P0_v18 := P0_v17.other W14 (Or.inr (slot_ne (Or.inl (hw _ (List.mem_of_getElem? (i := 81) rfl))) (Or.inl (hw _ (List.mem_of_getElem? (i := 107) rfl))) (by decide) (t := (.array (.object "java/lang/Object"))) (t' := .int) (by decide) (by decide)))
    have P1_v19 := P1_v5.other W14 (Or.inr (slot_ne (Or.inl (hw _ (List.mem_of_getElem? (i := 105) rfl))) (Or.inl (hw _ (List.mem_of_getElem? (i := 107) rfl))) (by decide) (t := .int) (t' := .int) (by decide) (by decide)))
    have V4_v20 := V4.other W14 (Ne.symm ne6)
    exact ⟨rfl, N14, K0_v16, P0_v18, P1_v19, Fw14, V4_v20⟩
theorem ef_addl10_0_1 (m : MethodId) (r0 : Addr) (r1 : Addr) : entryFrame m #[(.ref r0), (.ref r1)] 3 = mkF m 0 #[.val (.ref r0), .val (.ref r1), .unset] [] := by first | (simp [entryFrame, mkF, argsToLocals, Value.category]; done) | rfl
def Qaddl10_0_1 (Z : State) (r0 : Addr) (r1 : Addr) (ea : Addr) (ka : ClassId) (x0 : Addr) (h0 : Heap) (n0 : Nat) (v : Option Value) (h : Heap) (L : List Loc) : Prop := v = none ∧ Fr n0 L ∧ Keep h0 h [r0, ea] ∧ Fld Z h r0 "java/util/ArrayDeque" "elements" "[Ljava/lang/Object;" (.ref ea) ∧ Fld Z h r0 "java/util/ArrayDeque" "head" "I" (.int (0 : Int32)) ∧ Fld Z h r0 "java/util/ArrayDeque" "tail" "I" (.int (2 : Int32)) ∧ Arv Z h ea ka (.object "java/lang/Object") (17 : Int32) [(.ref x0), (.ref r1), .null, .null, .null, .null, .null, .null, .null, .null, .null, .null, .null, .null, .null, .null, .null] .null
set_option maxRecDepth 65536 in
set_option maxHeartbeats 40000000 in
theorem rmaddl10_0_1 (l : Launch) (Z : State) (a0 : Array Value) (hw : ∀ d ∈ tables_1, d.before a0 Z = true) (ws : List Jvm.Cond) (r0 : Addr) (r1 : Addr) (ea : Addr) (ka : ClassId) (x0 : Addr) (h0 : Heap) (n0 : Nat) (Z0 : n0 ≤ h0.size) (E0 : Exa Z h0 r0 "java/util/ArrayDeque") (P0 : Fld Z h0 r0 "java/util/ArrayDeque" "elements" "[Ljava/lang/Object;" (.ref ea)) (P1 : Fld Z h0 r0 "java/util/ArrayDeque" "head" "I" (.int (0 : Int32))) (P2 : Fld Z h0 r0 "java/util/ArrayDeque" "tail" "I" (.int (1 : Int32))) (P3 : Arv Z h0 ea ka (.object "java/lang/Object") (17 : Int32) [(.ref x0), .null, .null, .null, .null, .null, .null, .null, .null, .null, .null, .null, .null, .null, .null, .null, .null] .null) (Ov : Ovr Z ka "java/lang/Object") (g_r0 : n0 ≤ r0) (g_ea : n0 ≤ ea) (El : Exa Z h0 r1 "java/lang/Long") :
    MetFree l (⟨"java/util/ArrayDeque", "addLast", "(Ljava/lang/Object;)V"⟩ : MethodName) (head1 (Jvm.Cond.code (⟨"java/util/ArrayDeque", "addLast", "(Ljava/lang/Object;)V"⟩ : MethodName) jdk_21_method_13_code 3 none :: ws) ({ frames := 1, cells := 0, slots := 0, locals := 20 } : Room)) (fun a U => a = #[(.ref r0), (.ref r1)] ∧ Z.Warmed39 U.vm ∧ U.heap = h0) (fun _ _ _ _ _ => True) (fun _ U o U' => ∃ v L, o = .returned v ∧ Qaddl10_0_1 Z r0 r1 ea ka x0 h0 n0 v U'.heap L ∧ FrameEnd U o U' L ({ frames := 1, cells := 0, slots := 0, locals := 20 } : Room).cells ({ frames := 1, cells := 0, slots := 0, locals := 20 } : Room).slots) := by
  refine MetFree.of_bodySF (plainFor_of_name pn_20) hisR ?_
  intro p e s m args below meth c s₁ Bd hml0 hP hK
  obtain ⟨rfl, hZ, hh⟩ := hP
  have hx := Bd.exec
  have hby := Bd.bytes
  have hml : c.maxLocals = 3 := hml0
  have hown : s.vm.findClass "java/util/ArrayDeque" = some m.cls := findClass_of_methodNamed Bd.named
  have hnm := (name_of_methodNamed Bd.named Bd.method).1
  have X0 : Stand p l e ({ frames := 1, cells := 0, slots := 0, locals := 20 } : Room) s m #[(.ref r0), (.ref r1)] below meth c s₁ [] 0 0 := Stand.of_body Bd
  have e0 : s₁.heap = h0 := by rw [← hh, Bd.state]; rfl
  have N0 := Fr.nil n0
  refine own_go (B := s₁.setTop (mkF m 0 (LS_RRu r0 r1) [])) (fun t k => castTop (ef_addl10_0_1 m r0 r1) k) ?_
  have K0 : Keep h0 h0 [r0, ea] := Keep.refl _ _
  refine own_go (B := s₁.setTop (mkF m 13 (LS_RRu r0 r1) [(.ref r0)])) (fun t k => ?_) ?_
  · show Steps p.tables e below (s₁.setTop (mkF m 0 (LS_RRu r0 r1) [])) _
    refine XS.aloadN X0.here hx rfl (hb hby d20_0) rfl rfl ?_
    show Steps p.tables e below (s₁.setTop (mkF m 1 (LS_RRu r0 r1) [(.ref r1)])) _
    refine XS.ifnonnullYes X0.here hx rfl (pc0 := 1) (pc' := 12) rfl (hb hby d20_1) rfl (by decide) (by decide) ?_
    show Steps p.tables e below (s₁.setTop (mkF m 12 (LS_RRu r0 r1) [])) _
    refine XS.aloadN X0.here hx rfl (hb hby d20_12) rfl rfl ?_
    exact k
  obtain ⟨T1, X1, e1, st1⟩ := getF X0 hx hZ hown (host := "") (Or.inl (hw _ (List.mem_of_getElem? (i := 80) rfl))) Via.refl e0 P0 (g := (mkF m 13 (LS_RRu r0 r1) [(.ref r0)])) rfl rfl (hb hby d20_13)
  refine own_go (B := T1.setTop (mkF m 16 (LS_RRu r0 r1) [(.ref ea)])) (fun t k => st1 _ k) ?_
  refine own_go (B := T1.setTop (mkF m 19 (LS_RRR r0 r1 ea) [(.ref r0), (.ref ea)])) (fun t k => ?_) ?_
  · show Steps p.tables e below (T1.setTop (mkF m 16 (LS_RRu r0 r1) [(.ref ea)])) _
    refine XS.astoreN X1.here hx rfl (hb hby d20_16) rfl rfl (l' := (LS_RRR r0 r1 ea)) rfl ?_
    show Steps p.tables e below (T1.setTop (mkF m 17 (LS_RRR r0 r1 ea) [])) _
    refine XS.aloadN X1.here hx rfl (hb hby d20_17) rfl rfl ?_
    show Steps p.tables e below (T1.setTop (mkF m 18 (LS_RRR r0 r1 ea) [(.ref ea)])) _
    refine XS.aloadN X1.here hx rfl (hb hby d20_18) rfl rfl ?_
    exact k
  obtain ⟨T2, X2, e2, st2⟩ := getF X1 hx hZ hown (host := "") (Or.inl (hw _ (List.mem_of_getElem? (i := 106) rfl))) Via.refl e1 P2 (g := (mkF m 19 (LS_RRR r0 r1 ea) [(.ref r0), (.ref ea)])) rfl rfl (hb hby d20_19)
  refine own_go (B := T2.setTop (mkF m 22 (LS_RRR r0 r1 ea) [(.int (1 : Int32)), (.ref ea)])) (fun t k => st2 _ k) ?_
  refine own_go (B := T2.setTop (mkF m 23 (LS_RRR r0 r1 ea) [(.ref r1), (.int (1 : Int32)), (.ref ea)])) (fun t k => ?_) ?_
  · show Steps p.tables e below (T2.setTop (mkF m 22 (LS_RRR r0 r1 ea) [(.int (1 : Int32)), (.ref ea)])) _
    refine XS.aloadN X2.here hx rfl (hb hby d20_22) rfl rfl ?_
    exact k
  obtain ⟨cl3, Ar3, qa3, Sa3, Na3, Ha3, Ga3⟩ := id P3
  have hin4 : ¬ ((1 : Int32) < 0 ∨ cl3.slots.size ≤ ((1 : Int32)).toNatClampNeg) := inb_of Sa3 ⟨by decide, by decide⟩
  obtain ⟨T4, h4, X4, e4, W4, st4⟩ := stR X2 hx hZ e2 Ar3 (j := (1 : Int32)) hin4 rfl (Sto.ofV Ar3 qa3 Ov (Ins.of_exa El (hw _ (List.mem_of_getElem? (i := 151) rfl)))) (g := (mkF m 23 (LS_RRR r0 r1 ea) [(.ref r1), (.int (1 : Int32)), (.ref ea)])) rfl rfl (hb hby d20_23)
  have N4 := Fr.snoc X4 N0 g_ea
  have V4 : Arv Z h4 ea ka (.object "java/lang/Object") (17 : Int32) [(.ref x0), (.ref r1), .null, .null, .null, .null, .null, .null, .null, .null, .null, .null, .null, .null, .null, .null, .null] .null := Arv.set Ar3 qa3 Sa3 Na3 Ha3 Ga3 rfl W4 1 rfl (Nat.le_of_ble_eq_true rfl)
  refine own_go (B := T4.setTop (mkF m 24 (LS_RRR r0 r1 ea) [])) (fun t k => st4 _ k) ?_
  have E0_v7 := E0.wr W4
  have ne6 : r0 ≠ ea := Exa.neArv E0_v7 V4 (hw _ (List.mem_of_getElem? (i := 66) rfl))
  have P1_v5 := P1.other W4 (Or.inl ne6)
  refine own_go (B := T4.setTop (mkF m 25 (LS_RRR r0 r1 ea) [(.ref r0)])) (fun t k => ?_) ?_
  · show Steps p.tables e below (T4.setTop (mkF m 24 (LS_RRR r0 r1 ea) [])) _
    refine XS.aloadN X4.here hx rfl (hb hby d20_24) rfl rfl ?_
    exact k
  obtain ⟨T8, X8, e8, st8⟩ := getF X4 hx hZ hown (host := "") (Or.inl (hw _ (List.mem_of_getElem? (i := 104) rfl))) Via.refl e4 P1_v5 (g := (mkF m 25 (LS_RRR r0 r1 ea) [(.ref r0)])) rfl rfl (hb hby d20_25)
  refine own_go (B := T8.setTop (mkF m 28 (LS_RRR r0 r1 ea) [(.int (0 : Int32))])) (fun t k => st8 _ k) ?_
  have P2_v9 := P2.other W4 (Or.inl ne6)
  refine own_go (B := T8.setTop (mkF m 30 (LS_RRR r0 r1 ea) [(.ref r0), (.ref r0), (.int (0 : Int32))])) (fun t k => ?_) ?_
  · show Steps p.tables e below (T8.setTop (mkF m 28 (LS_RRR r0 r1 ea) [(.int (0 : Int32))])) _
    refine XS.aloadN X8.here hx rfl (hb hby d20_28) rfl rfl ?_
    show Steps p.tables e below (T8.setTop (mkF m 29 (LS_RRR r0 r1 ea) [(.ref r0), (.int (0 : Int32))])) _
    refine XS.aloadN X8.here hx rfl (hb hby d20_29) rfl rfl ?_
    exact k
  obtain ⟨T10, X10, e10, st10⟩ := getF X8 hx hZ hown (host := "") (Or.inl (hw _ (List.mem_of_getElem? (i := 106) rfl))) Via.refl e8 P2_v9 (g := (mkF m 30 (LS_RRR r0 r1 ea) [(.ref r0), (.ref r0), (.int (0 : Int32))])) rfl rfl (hb hby d20_30)
  refine own_go (B := T10.setTop (mkF m 33 (LS_RRR r0 r1 ea) [(.int (1 : Int32)), (.ref r0), (.int (0 : Int32))])) (fun t k => st10 _ k) ?_
  obtain ⟨cl11, Ar11, qa11, Sa11, Na11, Ha11, Ga11⟩ := id V4
  refine own_go (B := T10.setTop (mkF m 35 (LS_RRR r0 r1 ea) [(.int (17 : Int32)), (.int (1 : Int32)), (.ref r0), (.int (0 : Int32))])) (fun t k => ?_) ?_
  · show Steps p.tables e below (T10.setTop (mkF m 33 (LS_RRR r0 r1 ea) [(.int (1 : Int32)), (.ref r0), (.int (0 : Int32))])) _
    refine XS.aloadN X10.here hx rfl (hb hby d20_33) rfl rfl ?_
    show Steps p.tables e below (T10.setTop (mkF m 34 (LS_RRR r0 r1 ea) [(.ref ea), (.int (1 : Int32)), (.ref r0), (.int (0 : Int32))])) _
    refine X10.arraylength hx (by rw [e10]; exact Ar11.1) (State.isArrayOf_alike hZ.alike Ar11.2.1) (g := (mkF m 34 (LS_RRR r0 r1 ea) [(.ref ea), (.int (1 : Int32)), (.ref r0), (.int (0 : Int32))])) rfl rfl (hb hby d20_34) _ ?_
    rw [len_of Sa11 Na11]
    exact k
  have Z0_v12 := Nat.le_trans Z0 (Nat.le_of_eq W4.size.symm)
  obtain ⟨_, _, ⟨T13, L13, k13, n13⟩, -, X13, ⟨Lc13, hQ13, l13, y13, z13⟩, st13⟩ := Jvm.LawKit.callS X10 hx (y := (⟨"java/util/ArrayDeque", "inc", "(II)I"⟩ : MethodName)) hown (mvT hZ (hw _ (List.mem_of_getElem? (i := 152) rfl))) (mvT hZ (hw _ (List.mem_of_getElem? (i := 153) rfl))) (mvT hZ (hw _ (List.mem_of_getElem? (i := 67) rfl))) (mvT hZ (hw _ (List.mem_of_getElem? (i := 154) rfl))) (by decide) (backOf (W := 2) (rminc l Z a0 hw [] (1 : Int32) (17 : Int32) h4 n0 Z0_v12) hZ (hw _ (List.mem_of_getElem? (i := 154) rfl)) (hw _ (List.mem_of_getElem? (i := 67) rfl)) (by decide) (by decide)) (g := (mkF m 35 (LS_RRR r0 r1 ea) [(.int (17 : Int32)), (.int (1 : Int32)), (.ref r0), (.int (0 : Int32))])) rfl (by rw [hml]; rfl) (argsL := [(.int (1 : Int32)), (.int (17 : Int32))]) (rest := [(.ref r0), (.int (0 : Int32))]) (lenOf pd__II_I rfl) rfl (by show 2 * 0 + _ ≤ _; exact Nat.le_of_eq rfl) (hb hby d20_35) (fun _ _ => ⟨rfl, e10, (by decide : 0 + 0 ≤ _), (by decide : 0 + 0 ≤ _)⟩)
  dsimp only [Pt.U, Pt.locs, Pt.cells, Pt.slots] at X13 l13 y13 z13 st13 hQ13
  subst l13 y13 z13
  obtain ⟨rfl, N13q, e13⟩ := hQ13
  have N13 := Fr.app N4 N13q
  refine own_go (B := T13.setTop (mkF m 38 (LS_RRR r0 r1 ea) [(.int (if ((1 : Int32) + (1 : Int32)) < (17 : Int32) then ((1 : Int32) + (1 : Int32)) else (0 : Int32))), (.ref r0), (.int (0 : Int32))])) (fun t k => st13 _ k) ?_
  rw [show (if ((1 : Int32) + (1 : Int32)) < (17 : Int32) then ((1 : Int32) + (1 : Int32)) else (0 : Int32)) = (2 : Int32) from by decide]
  refine own_go (B := T13.setTop (mkF m 39 (LS_RRR r0 r1 ea) [(.int (2 : Int32)), (.ref r0), (.int (2 : Int32)), (.int (0 : Int32))])) (fun t k => ?_) ?_
  · show Steps p.tables e below (T13.setTop (mkF m 38 (LS_RRR r0 r1 ea) [(.int (2 : Int32)), (.ref r0), (.int (0 : Int32))])) _
    refine XS.dupX1 X13.here hx rfl (hb hby d20_38) rfl rfl rfl ?_
    exact k
  obtain ⟨T14, h14, X14, e14, W14, st14⟩ := putF X13 hx hZ hown (host := "") (Or.inl (hw _ (List.mem_of_getElem? (i := 106) rfl))) Via.refl e13 P2_v9 E0_v7 (Or.inl (hw _ (List.mem_of_getElem? (i := 107) rfl))) (hw _ (List.mem_of_getElem? (i := 66) rfl)) (ty := .int) (by decide) rfl rfl (g := (mkF m 39 (LS_RRR r0 r1 ea) [(.int (2 : Int32)), (.ref r0), (.int (2 : Int32)), (.int (0 : Int32))])) rfl rfl (hb hby d20_39)
  have N14 := Fr.snoc X14 N13 g_r0
  have Fw14 := P2_v9.same W14
  refine own_go (B := T14.setTop (mkF m 42 (LS_RRR r0 r1 ea) [(.int (2 : Int32)), (.int (0 : Int32))])) (fun t k => st14 _ k) ?_
  refine own_go (B := T14.setTop (mkF m 50 (LS_RRR r0 r1 ea) [])) (fun t k => ?_) ?_
  · show Steps p.tables e below (T14.setTop (mkF m 42 (LS_RRR r0 r1 ea) [(.int (2 : Int32)), (.int (0 : Int32))])) _
    refine XS.icmpYes X14.here hx rfl (pc0 := 42) (pc' := 50) rfl (hb hby d20_42) rfl (feq (by decide : ¬ ((0 : Int32) = (2 : Int32)))).2 (by decide) (by decide) ?_
    exact k
  obtain ⟨fs, hr, hrun, hended, hW, hsame⟩ := X14.leave (v := none) (fun _ => rfl) (BodyLoose.notSynchronized Bd)
  refine ⟨_, _, ?_, hrun, hended, _, _, rfl, ?_, ⟨_, rfl⟩, hW, hsame.mono (by decide) (by decide)⟩
  · show Steps p.tables e below (T14.setTop (mkF m 50 (LS_RRR r0 r1 ea) [])) _
    exact X14.returnOut hx Bd.returns (hb hby d20_50) hr
  · show Qaddl10_0_1 Z r0 r1 ea ka x0 h0 n0 _ T14.heap _
    rw [e14]
    have K0_v15 := K0.wr W4 (Or.inl (List.mem_of_getElem? (i := 1) rfl))
    have K0_v16 := K0_v15.wr W14 (Or.inl (List.mem_of_getElem? (i := 0) rfl))
    have P0_v17 := P0.other W4 (Or.inl ne6)
    have P0_v18 := P0_v17.other W14 (Or.inr (slot_ne (Or.inl (hw _ (List.mem_of_getElem? (i := 81) rfl))) (Or.inl (hw _ (List.mem_of_getElem? (i := 107) rfl))) (by decide) (t := (.array (.object "java/lang/Object"))) (t' := .int) (by decide) (by decide)))
    have P1_v19 := P1_v5.other W14 (Or.inr (slot_ne (Or.inl (hw _ (List.mem_of_getElem? (i := 105) rfl))) (Or.inl (hw _ (List.mem_of_getElem? (i := 107) rfl))) (by decide) (t := .int) (t' := .int) (by decide) (by decide)))
    have V4_v20 := V4.other W14 (Ne.symm ne6)
    exact ⟨rfl, N14, K0_v16, P0_v18, P1_v19, Fw14, V4_v20⟩
theorem ef_addl00_1_1 (m : MethodId) (r0 : Addr) (r1 : Addr) : entryFrame m #[(.ref r0), (.ref r1)] 3 = mkF m 0 #[.val (.ref r0), .val (.ref r1), .unset] [] := by first | (simp [entryFrame, mkF, argsToLocals, Value.category]; done) | rfl
def Qaddl00_1_1 (Z : State) (r0 : Addr) (r1 : Addr) (ea : Addr) (ka : ClassId) (h0 : Heap) (n0 : Nat) (v : Option Value) (h : Heap) (L : List Loc) : Prop := v = none ∧ Fr n0 L ∧ Keep h0 h [r0, ea] ∧ Fld Z h r0 "java/util/ArrayDeque" "elements" "[Ljava/lang/Object;" (.ref ea) ∧ Fld Z h r0 "java/util/ArrayDeque" "head" "I" (.int (1 : Int32)) ∧ Fld Z h r0 "java/util/ArrayDeque" "tail" "I" (.int (2 : Int32)) ∧ Arv Z h ea ka (.object "java/lang/Object") (17 : Int32) [.null, (.ref r1), .null, .null, .null, .null, .null, .null, .null, .null, .null, .null, .null, .null, .null, .null, .null] .null
set_option maxRecDepth 65536 in
set_option maxHeartbeats 40000000 in
theorem rmaddl00_1_1 (l : Launch) (Z : State) (a0 : Array Value) (hw : ∀ d ∈ tables_1, d.before a0 Z = true) (ws : List Jvm.Cond) (r0 : Addr) (r1 : Addr) (ea : Addr) (ka : ClassId) (h0 : Heap) (n0 : Nat) (Z0 : n0 ≤ h0.size) (E0 : Exa Z h0 r0 "java/util/ArrayDeque") (P0 : Fld Z h0 r0 "java/util/ArrayDeque" "elements" "[Ljava/lang/Object;" (.ref ea)) (P1 : Fld Z h0 r0 "java/util/ArrayDeque" "head" "I" (.int (1 : Int32))) (P2 : Fld Z h0 r0 "java/util/ArrayDeque" "tail" "I" (.int (1 : Int32))) (P3 : Arv Z h0 ea ka (.object "java/lang/Object") (17 : Int32) [.null, .null, .null, .null, .null, .null, .null, .null, .null, .null, .null, .null, .null, .null, .null, .null, .null] .null) (Ov : Ovr Z ka "java/lang/Object") (g_r0 : n0 ≤ r0) (g_ea : n0 ≤ ea) (El : Exa Z h0 r1 "java/lang/Long") :
    MetFree l (⟨"java/util/ArrayDeque", "addLast", "(Ljava/lang/Object;)V"⟩ : MethodName) (head1 (Jvm.Cond.code (⟨"java/util/ArrayDeque", "addLast", "(Ljava/lang/Object;)V"⟩ : MethodName) jdk_21_method_13_code 3 none :: ws) ({ frames := 1, cells := 0, slots := 0, locals := 20 } : Room)) (fun a U => a = #[(.ref r0), (.ref r1)] ∧ Z.Warmed39 U.vm ∧ U.heap = h0) (fun _ _ _ _ _ => True) (fun _ U o U' => ∃ v L, o = .returned v ∧ Qaddl00_1_1 Z r0 r1 ea ka h0 n0 v U'.heap L ∧ FrameEnd U o U' L ({ frames := 1, cells := 0, slots := 0, locals := 20 } : Room).cells ({ frames := 1, cells := 0, slots := 0, locals := 20 } : Room).slots) := by
  refine MetFree.of_bodySF (plainFor_of_name pn_20) hisR ?_
  intro p e s m args below meth c s₁ Bd hml0 hP hK
  obtain ⟨rfl, hZ, hh⟩ := hP
  have hx := Bd.exec
  have hby := Bd.bytes
  have hml : c.maxLocals = 3 := hml0
  have hown : s.vm.findClass "java/util/ArrayDeque" = some m.cls := findClass_of_methodNamed Bd.named
  have hnm := (name_of_methodNamed Bd.named Bd.method).1
  have X0 : Stand p l e ({ frames := 1, cells := 0, slots := 0, locals := 20 } : Room) s m #[(.ref r0), (.ref r1)] below meth c s₁ [] 0 0 := Stand.of_body Bd
  have e0 : s₁.heap = h0 := by rw [← hh, Bd.state]; rfl
  have N0 := Fr.nil n0
  refine own_go (B := s₁.setTop (mkF m 0 (LS_RRu r0 r1) [])) (fun t k => castTop (ef_addl00_1_1 m r0 r1) k) ?_
  have K0 : Keep h0 h0 [r0, ea] := Keep.refl _ _
  refine own_go (B := s₁.setTop (mkF m 13 (LS_RRu r0 r1) [(.ref r0)])) (fun t k => ?_) ?_
  · show Steps p.tables e below (s₁.setTop (mkF m 0 (LS_RRu r0 r1) [])) _
    refine XS.aloadN X0.here hx rfl (hb hby d20_0) rfl rfl ?_
    show Steps p.tables e below (s₁.setTop (mkF m 1 (LS_RRu r0 r1) [(.ref r1)])) _
    refine XS.ifnonnullYes X0.here hx rfl (pc0 := 1) (pc' := 12) rfl (hb hby d20_1) rfl (by decide) (by decide) ?_
    show Steps p.tables e below (s₁.setTop (mkF m 12 (LS_RRu r0 r1) [])) _
    refine XS.aloadN X0.here hx rfl (hb hby d20_12) rfl rfl ?_
    exact k
  obtain ⟨T1, X1, e1, st1⟩ := getF X0 hx hZ hown (host := "") (Or.inl (hw _ (List.mem_of_getElem? (i := 80) rfl))) Via.refl e0 P0 (g := (mkF m 13 (LS_RRu r0 r1) [(.ref r0)])) rfl rfl (hb hby d20_13)
  refine own_go (B := T1.setTop (mkF m 16 (LS_RRu r0 r1) [(.ref ea)])) (fun t k => st1 _ k) ?_
  refine own_go (B := T1.setTop (mkF m 19 (LS_RRR r0 r1 ea) [(.ref r0), (.ref ea)])) (fun t k => ?_) ?_
  · show Steps p.tables e below (T1.setTop (mkF m 16 (LS_RRu r0 r1) [(.ref ea)])) _
    refine XS.astoreN X1.here hx rfl (hb hby d20_16) rfl rfl (l' := (LS_RRR r0 r1 ea)) rfl ?_
    show Steps p.tables e below (T1.setTop (mkF m 17 (LS_RRR r0 r1 ea) [])) _
    refine XS.aloadN X1.here hx rfl (hb hby d20_17) rfl rfl ?_
    show Steps p.tables e below (T1.setTop (mkF m 18 (LS_RRR r0 r1 ea) [(.ref ea)])) _
    refine XS.aloadN X1.here hx rfl (hb hby d20_18) rfl rfl ?_
    exact k
  obtain ⟨T2, X2, e2, st2⟩ := getF X1 hx hZ hown (host := "") (Or.inl (hw _ (List.mem_of_getElem? (i := 106) rfl))) Via.refl e1 P2 (g := (mkF m 19 (LS_RRR r0 r1 ea) [(.ref r0), (.ref ea)])) rfl rfl (hb hby d20_19)
  refine own_go (B := T2.setTop (mkF m 22 (LS_RRR r0 r1 ea) [(.int (1 : Int32)), (.ref ea)])) (fun t k => st2 _ k) ?_
  refine own_go (B := T2.setTop (mkF m 23 (LS_RRR r0 r1 ea) [(.ref r1), (.int (1 : Int32)), (.ref ea)])) (fun t k => ?_) ?_
  · show Steps p.tables e below (T2.setTop (mkF m 22 (LS_RRR r0 r1 ea) [(.int (1 : Int32)), (.ref ea)])) _
    refine XS.aloadN X2.here hx rfl (hb hby d20_22) rfl rfl ?_
    exact k
  obtain ⟨cl3, Ar3, qa3, Sa3, Na3, Ha3, Ga3⟩ := id P3
  have hin4 : ¬ ((1 : Int32) < 0 ∨ cl3.slots.size ≤ ((1 : Int32)).toNatClampNeg) := inb_of Sa3 ⟨by decide, by decide⟩
  obtain ⟨T4, h4, X4, e4, W4, st4⟩ := stR X2 hx hZ e2 Ar3 (j := (1 : Int32)) hin4 rfl (Sto.ofV Ar3 qa3 Ov (Ins.of_exa El (hw _ (List.mem_of_getElem? (i := 151) rfl)))) (g := (mkF m 23 (LS_RRR r0 r1 ea) [(.ref r1), (.int (1 : Int32)), (.ref ea)])) rfl rfl (hb hby d20_23)
  have N4 := Fr.snoc X4 N0 g_ea
  have V4 : Arv Z h4 ea ka (.object "java/lang/Object") (17 : Int32) [.null, (.ref r1), .null, .null, .null, .null, .null, .null, .null, .null, .null, .null, .null, .null, .null, .null, .null] .null := Arv.set Ar3 qa3 Sa3 Na3 Ha3 Ga3 rfl W4 1 rfl (Nat.le_of_ble_eq_true rfl)
  refine own_go (B := T4.setTop (mkF m 24 (LS_RRR r0 r1 ea) [])) (fun t k => st4 _ k) ?_
  have E0_v7 := E0.wr W4
  have ne6 : r0 ≠ ea := Exa.neArv E0_v7 V4 (hw _ (List.mem_of_getElem? (i := 66) rfl))
  have P1_v5 := P1.other W4 (Or.inl ne6)
  refine own_go (B := T4.setTop (mkF m 25 (LS_RRR r0 r1 ea) [(.ref r0)])) (fun t k => ?_) ?_
  · show Steps p.tables e below (T4.setTop (mkF m 24 (LS_RRR r0 r1 ea) [])) _
    refine XS.aloadN X4.here hx rfl (hb hby d20_24) rfl rfl ?_
    exact k
  obtain ⟨T8, X8, e8, st8⟩ := getF X4 hx hZ hown (host := "") (Or.inl (hw _ (List.mem_of_getElem? (i := 104) rfl))) Via.refl e4 P1_v5 (g := (mkF m 25 (LS_RRR r0 r1 ea) [(.ref r0)])) rfl rfl (hb hby d20_25)
  refine own_go (B := T8.setTop (mkF m 28 (LS_RRR r0 r1 ea) [(.int (1 : Int32))])) (fun t k => st8 _ k) ?_
  have P2_v9 := P2.other W4 (Or.inl ne6)
  refine own_go (B := T8.setTop (mkF m 30 (LS_RRR r0 r1 ea) [(.ref r0), (.ref r0), (.int (1 : Int32))])) (fun t k => ?_) ?_
  · show Steps p.tables e below (T8.setTop (mkF m 28 (LS_RRR r0 r1 ea) [(.int (1 : Int32))])) _
    refine XS.aloadN X8.here hx rfl (hb hby d20_28) rfl rfl ?_
    show Steps p.tables e below (T8.setTop (mkF m 29 (LS_RRR r0 r1 ea) [(.ref r0), (.int (1 : Int32))])) _
    refine XS.aloadN X8.here hx rfl (hb hby d20_29) rfl rfl ?_
    exact k
  obtain ⟨T10, X10, e10, st10⟩ := getF X8 hx hZ hown (host := "") (Or.inl (hw _ (List.mem_of_getElem? (i := 106) rfl))) Via.refl e8 P2_v9 (g := (mkF m 30 (LS_RRR r0 r1 ea) [(.ref r0), (.ref r0), (.int (1 : Int32))])) rfl rfl (hb hby d20_30)
  refine own_go (B := T10.setTop (mkF m 33 (LS_RRR r0 r1 ea) [(.int (1 : Int32)), (.ref r0), (.int (1 : Int32))])) (fun t k => st10 _ k) ?_
  obtain ⟨cl11, Ar11, qa11, Sa11, Na11, Ha11, Ga11⟩ := id V4
  refine own_go (B := T10.setTop (mkF m 35 (LS_RRR r0 r1 ea) [(.int (17 : Int32)), (.int (1 : Int32)), (.ref r0), (.int (1 : Int32))])) (fun t k => ?_) ?_
  · show Steps p.tables e below (T10.setTop (mkF m 33 (LS_RRR r0 r1 ea) [(.int (1 : Int32)), (.ref r0), (.int (1 : Int32))])) _
    refine XS.aloadN X10.here hx rfl (hb hby d20_33) rfl rfl ?_
    show Steps p.tables e below (T10.setTop (mkF m 34 (LS_RRR r0 r1 ea) [(.ref ea), (.int (1 : Int32)), (.ref r0), (.int (1 : Int32))])) _
    refine X10.arraylength hx (by rw [e10]; exact Ar11.1) (State.isArrayOf_alike hZ.alike Ar11.2.1) (g := (mkF m 34 (LS_RRR r0 r1 ea) [(.ref ea), (.int (1 : Int32)), (.ref r0), (.int (1 : Int32))])) rfl rfl (hb hby d20_34) _ ?_
    rw [len_of Sa11 Na11]
    exact k
  have Z0_v12 := Nat.le_trans Z0 (Nat.le_of_eq W4.size.symm)
  obtain ⟨_, _, ⟨T13, L13, k13, n13⟩, -, X13, ⟨Lc13, hQ13, l13, y13, z13⟩, st13⟩ := Jvm.LawKit.callS X10 hx (y := (⟨"java/util/ArrayDeque", "inc", "(II)I"⟩ : MethodName)) hown (mvT hZ (hw _ (List.mem_of_getElem? (i := 152) rfl))) (mvT hZ (hw _ (List.mem_of_getElem? (i := 153) rfl))) (mvT hZ (hw _ (List.mem_of_getElem? (i := 67) rfl))) (mvT hZ (hw _ (List.mem_of_getElem? (i := 154) rfl))) (by decide) (backOf (W := 2) (rminc l Z a0 hw [] (1 : Int32) (17 : Int32) h4 n0 Z0_v12) hZ (hw _ (List.mem_of_getElem? (i := 154) rfl)) (hw _ (List.mem_of_getElem? (i := 67) rfl)) (by decide) (by decide)) (g := (mkF m 35 (LS_RRR r0 r1 ea) [(.int (17 : Int32)), (.int (1 : Int32)), (.ref r0), (.int (1 : Int32))])) rfl (by rw [hml]; rfl) (argsL := [(.int (1 : Int32)), (.int (17 : Int32))]) (rest := [(.ref r0), (.int (1 : Int32))]) (lenOf pd__II_I rfl) rfl (by show 2 * 0 + _ ≤ _; exact Nat.le_of_eq rfl) (hb hby d20_35) (fun _ _ => ⟨rfl, e10, (by decide : 0 + 0 ≤ _), (by decide : 0 + 0 ≤ _)⟩)
  dsimp only [Pt.U, Pt.locs, Pt.cells, Pt.slots] at X13 l13 y13 z13 st13 hQ13
  subst l13 y13 z13
  obtain ⟨rfl, N13q, e13⟩ := hQ13
  have N13 := Fr.app N4 N13q
  refine own_go (B := T13.setTop (mkF m 38 (LS_RRR r0 r1 ea) [(.int (if ((1 : Int32) + (1 : Int32)) < (17 : Int32) then ((1 : Int32) + (1 : Int32)) else (0 : Int32))), (.ref r0), (.int (1 : Int32))])) (fun t k => st13 _ k) ?_
  rw [show (if ((1 : Int32) + (1 : Int32)) < (17 : Int32) then ((1 : Int32) + (1 : Int32)) else (0 : Int32)) = (2 : Int32) from by decide]
  refine own_go (B := T13.setTop (mkF m 39 (LS_RRR r0 r1 ea) [(.int (2 : Int32)), (.ref r0), (.int (2 : Int32)), (.int (1 : Int32))])) (fun t k => ?_) ?_
  · show Steps p.tables e below (T13.setTop (mkF m 38 (LS_RRR r0 r1 ea) [(.int (2 : Int32)), (.ref r0), (.int (1 : Int32))])) _
    refine XS.dupX1 X13.here hx rfl (hb hby d20_38) rfl rfl rfl ?_
    exact k
  obtain ⟨T14, h14, X14, e14, W14, st14⟩ := putF X13 hx hZ hown (host := "") (Or.inl (hw _ (List.mem_of_getElem? (i := 106) rfl))) Via.refl e13 P2_v9 E0_v7 (Or.inl (hw _ (List.mem_of_getElem? (i := 107) rfl))) (hw _ (List.mem_of_getElem? (i := 66) rfl)) (ty := .int) (by decide) rfl rfl (g := (mkF m 39 (LS_RRR r0 r1 ea) [(.int (2 : Int32)), (.ref r0), (.int (2 : Int32)), (.int (1 : Int32))])) rfl rfl (hb hby d20_39)
  have N14 := Fr.snoc X14 N13 g_r0
  have Fw14 := P2_v9.same W14
  refine own_go (B := T14.setTop (mkF m 42 (LS_RRR r0 r1 ea) [(.int (2 : Int32)), (.int (1 : Int32))])) (fun t k => st14 _ k) ?_
  refine own_go (B := T14.setTop (mkF m 50 (LS_RRR r0 r1 ea) [])) (fun t k => ?_) ?_
  · show Steps p.tables e below (T14.setTop (mkF m 42 (LS_RRR r0 r1 ea) [(.int (2 : Int32)), (.int (1 : Int32))])) _
    refine XS.icmpYes X14.here hx rfl (pc0 := 42) (pc' := 50) rfl (hb hby d20_42) rfl (feq (by decide : ¬ ((1 : Int32) = (2 : Int32)))).2 (by decide) (by decide) ?_
    exact k
  obtain ⟨fs, hr, hrun, hended, hW, hsame⟩ := X14.leave (v := none) (fun _ => rfl) (BodyLoose.notSynchronized Bd)
  refine ⟨_, _, ?_, hrun, hended, _, _, rfl, ?_, ⟨_, rfl⟩, hW, hsame.mono (by decide) (by decide)⟩
  · show Steps p.tables e below (T14.setTop (mkF m 50 (LS_RRR r0 r1 ea) [])) _
    exact X14.returnOut hx Bd.returns (hb hby d20_50) hr
  · show Qaddl00_1_1 Z r0 r1 ea ka h0 n0 _ T14.heap _
    rw [e14]
    have K0_v15 := K0.wr W4 (Or.inl (List.mem_of_getElem? (i := 1) rfl))
    have K0_v16 := K0_v15.wr W14 (Or.inl (List.mem_of_getElem? (i := 0) rfl))
    have P0_v17 := P0.other W4 (Or.inl ne6)
    have P0_v18 := P0_v17.other W14 (Or.inr (slot_ne (Or.inl (hw _ (List.mem_of_getElem? (i := 81) rfl))) (Or.inl (hw _ (List.mem_of_getElem? (i := 107) rfl))) (by decide) (t := (.array (.object "java/lang/Object"))) (t' := .int) (by decide) (by decide)))
    have P1_v19 := P1_v5.other W14 (Or.inr (slot_ne (Or.inl (hw _ (List.mem_of_getElem? (i := 105) rfl))) (Or.inl (hw _ (List.mem_of_getElem? (i := 107) rfl))) (by decide) (t := .int) (t' := .int) (by decide) (by decide)))
    have V4_v20 := V4.other W14 (Ne.symm ne6)
    exact ⟨rfl, N14, K0_v16, P0_v18, P1_v19, Fw14, V4_v20⟩
theorem ef_adi (m : MethodId) (r0 : Addr) : entryFrame m #[(.ref r0)] 1 = mkF m 0 #[.val (.ref r0)] [] := by first | (simp [entryFrame, mkF, argsToLocals, Value.category]; done) | rfl
theorem pn_8 : plainName "java/util/ArrayDeque" = true := by first | (simp [plainName, overriddenIn]; done) | decide +kernel
theorem d8_0 : decode jdk_21_method_3_code 0 = .ok (.aload_n 0, 1) := by decide +kernel
theorem d8_1 : decode jdk_21_method_3_code 1 = .ok (.invokespecial 42, 3) := by decide +kernel
theorem d8_4 : decode jdk_21_method_3_code 4 = .ok (.aload_n 0, 1) := by decide +kernel
theorem d8_5 : decode jdk_21_method_3_code 5 = .ok (.bipush 17, 2) := by decide +kernel
theorem d8_7 : decode jdk_21_method_3_code 7 = .ok (.anewarray 47, 3) := by decide +kernel
theorem d8_10 : decode jdk_21_method_3_code 10 = .ok (.putfield 3, 3) := by decide +kernel
theorem d8_13 : decode jdk_21_method_3_code 13 = .ok (.return_, 1) := by decide +kernel
def Qadi (Z : State) (r0 : Addr) (h0 : Heap) (n0 : Nat) (v : Option Value) (h : Heap) (L : List Loc) : Prop := ∃ (ea : Addr) (ka : ClassId), v = none ∧ Fr n0 L ∧ Keep h0 h [r0] ∧ h0.size ≤ ea ∧ Fld Z h r0 "java/util/ArrayDeque" "elements" "[Ljava/lang/Object;" (.ref ea) ∧ Fld Z h r0 "java/util/ArrayDeque" "head" "I" (.int (0 : Int32)) ∧ Fld Z h r0 "java/util/ArrayDeque" "tail" "I" (.int (0 : Int32)) ∧ Arv Z h ea ka (.object "java/lang/Object") (17 : Int32) [.null, .null, .null, .null, .null, .null, .null, .null, .null, .null, .null, .null, .null, .null, .null, .null, .null] .null ∧ Ovr Z ka "java/lang/Object"
set_option maxRecDepth 65536 in
set_option maxHeartbeats 40000000 in
theorem rmadi (l : Launch) (Z : State) (a0 : Array Value) (hw : ∀ d ∈ tables_1, d.before a0 Z = true) (ws : List Jvm.Cond) (r0 : Addr) (h0 : Heap) (n0 : Nat) (Z0 : n0 ≤ h0.size) (E0 : Exa Z h0 r0 "java/util/ArrayDeque") (P0 : Fld Z h0 r0 "java/util/ArrayDeque" "elements" "[Ljava/lang/Object;" .null) (P1 : Fld Z h0 r0 "java/util/ArrayDeque" "head" "I" (.int (0 : Int32))) (P2 : Fld Z h0 r0 "java/util/ArrayDeque" "tail" "I" (.int (0 : Int32))) (g_r0 : n0 ≤ r0) :
    MetFree l (⟨"java/util/ArrayDeque", "<init>", "()V"⟩ : MethodName) (head1 (Jvm.Cond.code (⟨"java/util/ArrayDeque", "<init>", "()V"⟩ : MethodName) jdk_21_method_3_code 1 none :: ws) ({ frames := 2, cells := 1, slots := 17, locals := 30 } : Room)) (fun a U => a = #[(.ref r0)] ∧ Z.Warmed39 U.vm ∧ U.heap = h0) (fun _ _ _ _ _ => True) (fun _ U o U' => ∃ v L, o = .returned v ∧ Qadi Z r0 h0 n0 v U'.heap L ∧ FrameEnd U o U' L ({ frames := 2, cells := 1, slots := 17, locals := 30 } : Room).cells ({ frames := 2, cells := 1, slots := 17, locals := 30 } : Room).slots) := by
  refine MetFree.of_bodySF (plainFor_of_name pn_8) hisR ?_
  intro p e s m args below meth c s₁ Bd hml0 hP hK
  obtain ⟨rfl, hZ, hh⟩ := hP
  have hx := Bd.exec
  have hby := Bd.bytes
  have hml : c.maxLocals = 1 := hml0
  have hown : s.vm.findClass "java/util/ArrayDeque" = some m.cls := findClass_of_methodNamed Bd.named
  have hnm := (name_of_methodNamed Bd.named Bd.method).1
  have X0 : Stand p l e ({ frames := 2, cells := 1, slots := 17, locals := 30 } : Room) s m #[(.ref r0)] below meth c s₁ [] 0 0 := Stand.of_body Bd
  have e0 : s₁.heap = h0 := by rw [← hh, Bd.state]; rfl
  have N0 := Fr.nil n0
  refine own_go (B := s₁.setTop (mkF m 0 (LS_R r0) [])) (fun t k => castTop (ef_adi m r0) k) ?_
  have K0 : Keep h0 h0 [r0] := Keep.refl _ _
  refine own_go (B := s₁.setTop (mkF m 1 (LS_R r0) [(.ref r0)])) (fun t k => ?_) ?_
  · show Steps p.tables e below (s₁.setTop (mkF m 0 (LS_R r0) [])) _
    refine XS.aloadN X0.here hx rfl (hb hby d8_0) rfl rfl ?_
    exact k
  obtain ⟨_, _, ⟨T1, L1, k1, n1⟩, -, X1, ⟨Lc1, hQ1, l1, y1, z1⟩, st1⟩ := X0.specialBack hx (y := (⟨"java/util/AbstractCollection", "<init>", "()V"⟩ : MethodName)) rfl hown (mvT hZ (hw _ (List.mem_of_getElem? (i := 71) rfl))) (mvT hZ (hw _ (List.mem_of_getElem? (i := 72) rfl))) (mvT hZ (hw _ (List.mem_of_getElem? (i := 76) rfl))) (by decide) (backOf (W := 0) (rmabc l Z a0 hw [] r0 h0 n0 Z0) hZ (hw _ (List.mem_of_getElem? (i := 76) rfl)) (hw _ (List.mem_of_getElem? (i := 75) rfl)) (by decide) (by decide)) (g := (mkF m 1 (LS_R r0) [(.ref r0)])) rfl (by rw [hml]; rfl) (Steps.refl _) (a := r0) (argsL := []) (rest := []) (lenOf pd___V rfl) rfl (by show 2 * 0 + _ ≤ _; exact Nat.le_of_eq rfl) (hb hby d8_1) (fun _ _ => ⟨rfl, e0, (by decide : 0 + 0 ≤ _), (by decide : 0 + 0 ≤ _)⟩)
  dsimp only [Pt.U, Pt.locs, Pt.cells, Pt.slots] at X1 l1 y1 z1 st1 hQ1
  subst l1 y1 z1
  obtain ⟨rfl, N1q, e1⟩ := hQ1
  have N1 := Fr.app N0 N1q
  refine own_go (B := T1.setTop (mkF m 4 (LS_R r0) [])) (fun t k => st1.trans k) ?_
  refine own_go (B := T1.setTop (mkF m 7 (LS_R r0) [(.int (17 : Int32)), (.ref r0)])) (fun t k => ?_) ?_
  · show Steps p.tables e below (T1.setTop (mkF m 4 (LS_R r0) [])) _
    refine XS.aloadN X1.here hx rfl (hb hby d8_4) rfl rfl ?_
    show Steps p.tables e below (T1.setTop (mkF m 5 (LS_R r0) [(.ref r0)])) _
    refine XS.bipush X1.here hx rfl (hb hby d8_5) ?_
    exact k
  obtain ⟨T2, h2, k2, X2, e2, E2, A2, O2, st2⟩ := newR X1 hx hZ hown (hw _ (List.mem_of_getElem? (i := 78) rfl)) (hw _ (List.mem_of_getElem? (i := 79) rfl)) e1 (g := (mkF m 7 (LS_R r0) [(.int (17 : Int32)), (.ref r0)])) rfl (hb hby d8_7) rfl (by decide) (cap := 17) (by decide) (by decide) (by decide) (by decide)
  obtain ⟨b2, g2⟩ : ∃ z, z = h0.size := ⟨_, rfl⟩
  rw [← g2] at A2 st2
  have g_b2 : n0 ≤ b2 := Nat.le_trans Z0 (Nat.le_of_eq g2.symm)
  have sz_b2 : h0.size ≤ b2 := Nat.le_trans K0.1 (Nat.le_of_eq g2.symm)
  have V2 : Arv Z h2 b2 k2 (.object "java/lang/Object") (17 : Int32) [.null, .null, .null, .null, .null, .null, .null, .null, .null, .null, .null, .null, .null, .null, .null, .null, .null] .null := (Arv.new A2 (by decide)).pad (pad_rep [] .null 17)
  refine own_go (B := T2.setTop (mkF m 10 (LS_R r0) [(.ref b2), (.ref r0)])) (fun t k => st2 _ k) ?_
  have E0_v3 := E0.ext E2
  have P0_v4 := P0.ext E2
  obtain ⟨T5, h5, X5, e5, W5, st5⟩ := putF X2 hx hZ hown (host := "") (Or.inl (hw _ (List.mem_of_getElem? (i := 80) rfl))) Via.refl e2 P0_v4 E0_v3 (Or.inl (hw _ (List.mem_of_getElem? (i := 81) rfl))) (hw _ (List.mem_of_getElem? (i := 66) rfl)) (ty := (.array (.object "java/lang/Object"))) (by decide) rfl rfl (g := (mkF m 10 (LS_R r0) [(.ref b2), (.ref r0)])) rfl rfl (hb hby d8_10)
  have N5 := Fr.snoc X5 N1 g_r0
  have Fw5 := P0_v4.same W5
  refine own_go (B := T5.setTop (mkF m 13 (LS_R r0) [])) (fun t k => st5 _ k) ?_
  obtain ⟨fs, hr, hrun, hended, hW, hsame⟩ := X5.leave (v := none) (fun _ => rfl) (BodyLoose.notSynchronized Bd)
  refine ⟨_, _, ?_, hrun, hended, _, _, rfl, ?_, ⟨_, rfl⟩, hW, hsame.mono (by decide) (by decide)⟩
  · show Steps p.tables e below (T5.setTop (mkF m 13 (LS_R r0) [])) _
    exact X5.returnOut hx Bd.returns (hb hby d8_13) hr
  · show Qadi Z r0 h0 n0 _ T5.heap _
    rw [e5]
    have K0_v6 := K0.ext E2
    have K0_v7 := K0_v6.wr W5 (Or.inl (List.mem_of_getElem? (i := 0) rfl))
    have P1_v8 := P1.ext E2
    have P1_v9 := P1_v8.other W5 (Or.inr (slot_ne (Or.inl (hw _ (List.mem_of_getElem? (i := 105) rfl))) (Or.inl (hw _ (List.mem_of_getElem? (i := 81) rfl))) (by decide) (t := .int) (t' := (.array (.object "java/lang/Object"))) (by decide) (by decide)))
    have P2_v10 := P2.ext E2
    have P2_v11 := P2_v10.other W5 (Or.inr (slot_ne (Or.inl (hw _ (List.mem_of_getElem? (i := 107) rfl))) (Or.inl (hw _ (List.mem_of_getElem? (i := 81) rfl))) (by decide) (t := .int) (t' := (.array (.object "java/lang/Object"))) (by decide) (by decide)))
    have ne13 : r0 ≠ b2 := Exa.neArv E0_v3 V2 (hw _ (List.mem_of_getElem? (i := 66) rfl))
    have V2_v12 := V2.other W5 (Ne.symm ne13)
    exact ⟨b2, k2, rfl, N5, K0_v7, sz_b2, Fw5, P1_v9, P2_v11, V2_v12, O2⟩
theorem ef_swi (m : MethodId) (r0 : Addr) (r1 : Addr) : entryFrame m #[(.ref r0), (.ref r1)] 2 = mkF m 0 #[.val (.ref r0), .val (.ref r1)] [] := by first | (simp [entryFrame, mkF, argsToLocals, Value.category]; done) | rfl
theorem pn_7 : plainName "com/example/blend2/blend2/SlidingWindowLog" = true := by first | (simp [plainName, overriddenIn]; done) | decide +kernel
theorem d7_0 : decode prog_12_method_1_code 0 = .ok (.aload_n 0, 1) := by decide +kernel
theorem d7_1 : decode prog_12_method_1_code 1 = .ok (.invokespecial 1, 3) := by decide +kernel
theorem d7_4 : decode prog_12_method_1_code 4 = .ok (.aload_n 0, 1) := by decide +kernel
theorem d7_5 : decode prog_12_method_1_code 5 = .ok (.new 7, 3) := by decide +kernel
theorem d7_8 : decode prog_12_method_1_code 8 = .ok (.dup, 1) := by decide +kernel
theorem d7_9 : decode prog_12_method_1_code 9 = .ok (.invokespecial 9, 3) := by decide +kernel
theorem d7_12 : decode prog_12_method_1_code 12 = .ok (.putfield 10, 3) := by decide +kernel
theorem d7_15 : decode prog_12_method_1_code 15 = .ok (.aload_n 0, 1) := by decide +kernel
theorem d7_16 : decode prog_12_method_1_code 16 = .ok (.aload_n 1, 1) := by decide +kernel
theorem d7_17 : decode prog_12_method_1_code 17 = .ok (.putfield 16, 3) := by decide +kernel
theorem d7_20 : decode prog_12_method_1_code 20 = .ok (.aload_n 0, 1) := by decide +kernel
theorem d7_21 : decode prog_12_method_1_code 21 = .ok (.aload_n 1, 1) := by decide +kernel
theorem d7_22 : decode prog_12_method_1_code 22 = .ok (.invokevirtual 20, 3) := by decide +kernel
theorem pd___I : parseMethodDescriptor "()I" = some ⟨[], some .int⟩ := by decide +kernel
theorem d7_25 : decode prog_12_method_1_code 25 = .ok (.i2l, 1) := by decide +kernel
theorem d7_26 : decode prog_12_method_1_code 26 = .ok (.ldc2_w 26, 3) := by decide +kernel
theorem d7_29 : decode prog_12_method_1_code 29 = .ok (.lmul, 1) := by decide +kernel
theorem d7_30 : decode prog_12_method_1_code 30 = .ok (.putfield 28, 3) := by decide +kernel
theorem d7_33 : decode prog_12_method_1_code 33 = .ok (.return_, 1) := by decide +kernel
def Qswi (Z : State) (r0 : Addr) (r1 : Addr) (p2 : Int32) (h0 : Heap) (n0 : Nat) (v : Option Value) (h : Heap) (L : List Loc) : Prop := ∃ (da ea : Addr) (ka : ClassId), v = none ∧ Fr n0 L ∧ Keep h0 h [r0] ∧ h0.size ≤ da ∧ h0.size ≤ ea ∧ Exa Z h da "java/util/ArrayDeque" ∧ Fld Z h da "java/util/ArrayDeque" "elements" "[Ljava/lang/Object;" (.ref ea) ∧ Fld Z h da "java/util/ArrayDeque" "head" "I" (.int (0 : Int32)) ∧ Fld Z h da "java/util/ArrayDeque" "tail" "I" (.int (0 : Int32)) ∧ Arv Z h ea ka (.object "java/lang/Object") (17 : Int32) [.null, .null, .null, .null, .null, .null, .null, .null, .null, .null, .null, .null, .null, .null, .null, .null, .null] .null ∧ Ovr Z ka "java/lang/Object" ∧ Fld Z h r0 "com/example/blend2/blend2/SlidingWindowLog" "admitted" "Ljava/util/ArrayDeque;" (.ref da) ∧ Fld Z h r0 "com/example/blend2/blend2/SlidingWindowLog" "rule" "Lcom/example/blend2/blend2/Rule;" (.ref r1) ∧ Fld Z h r0 "com/example/blend2/blend2/SlidingWindowLog" "windowMillis" "J" (.long ((p2.toInt64) * (1000 : Int64)))
set_option maxRecDepth 65536 in
set_option maxHeartbeats 40000000 in
theorem rmswi (l : Launch) (Z : State) (a0 : Array Value) (hw : ∀ d ∈ tables_1, d.before a0 Z = true) (ws : List Jvm.Cond) (r0 : Addr) (r1 : Addr) (p2 : Int32) (h0 : Heap) (n0 : Nat) (Z0 : n0 ≤ h0.size) (E0 : Exa Z h0 r0 "com/example/blend2/blend2/SlidingWindowLog") (Er : Exa Z h0 r1 "com/example/blend2/blend2/Rule") (Fr1 : Fld Z h0 r1 "com/example/blend2/blend2/Rule" "timeWindowSec" "I" (.int p2)) (F0 : Fld Z h0 r0 "com/example/blend2/blend2/SlidingWindowLog" "admitted" "Ljava/util/ArrayDeque;" .null) (F1 : Fld Z h0 r0 "com/example/blend2/blend2/SlidingWindowLog" "rule" "Lcom/example/blend2/blend2/Rule;" .null) (F2 : Fld Z h0 r0 "com/example/blend2/blend2/SlidingWindowLog" "windowMillis" "J" (.long (0 : Int64))) (g_r0 : n0 ≤ r0) :
    MetFree l (⟨"com/example/blend2/blend2/SlidingWindowLog", "<init>", "(Lcom/example/blend2/blend2/Rule;)V"⟩ : MethodName) (head1 (Jvm.Cond.code (⟨"com/example/blend2/blend2/SlidingWindowLog", "<init>", "(Lcom/example/blend2/blend2/Rule;)V"⟩ : MethodName) prog_12_method_1_code 2 none :: ws) ({ frames := 3, cells := 2, slots := 20, locals := 60 } : Room)) (fun a U => a = #[(.ref r0), (.ref r1)] ∧ Z.Warmed39 U.vm ∧ U.heap = h0) (fun _ _ _ _ _ => True) (fun _ U o U' => ∃ v L, o = .returned v ∧ Qswi Z r0 r1 p2 h0 n0 v U'.heap L ∧ FrameEnd U o U' L ({ frames := 3, cells := 2, slots := 20, locals := 60 } : Room).cells ({ frames := 3, cells := 2, slots := 20, locals := 60 } : Room).slots) := by
  refine MetFree.of_bodySF (plainFor_of_name pn_7) hisR ?_
  intro p e s m args below meth c s₁ Bd hml0 hP hK
  obtain ⟨rfl, hZ, hh⟩ := hP
  have hx := Bd.exec
  have hby := Bd.bytes
  have hml : c.maxLocals = 2 := hml0
  have hown : s.vm.findClass "com/example/blend2/blend2/SlidingWindowLog" = some m.cls := findClass_of_methodNamed Bd.named
  have hnm := (name_of_methodNamed Bd.named Bd.method).1
  have X0 : Stand p l e ({ frames := 3, cells := 2, slots := 20, locals := 60 } : Room) s m #[(.ref r0), (.ref r1)] below meth c s₁ [] 0 0 := Stand.of_body Bd
  have e0 : s₁.heap = h0 := by rw [← hh, Bd.state]; rfl
  have N0 := Fr.nil n0
  refine own_go (B := s₁.setTop (mkF m 0 (LS_RR r0 r1) [])) (fun t k => castTop (ef_swi m r0 r1) k) ?_
  have K0 : Keep h0 h0 [r0] := Keep.refl _ _
  refine own_go (B := s₁.setTop (mkF m 1 (LS_RR r0 r1) [(.ref r0)])) (fun t k => ?_) ?_
  · show Steps p.tables e below (s₁.setTop (mkF m 0 (LS_RR r0 r1) [])) _
    refine XS.aloadN X0.here hx rfl (hb hby d7_0) rfl rfl ?_
    exact k
  obtain ⟨T1, X1, e1, st1⟩ := initO X0 hx hZ hown (hw _ (List.mem_of_getElem? (i := 64) rfl)) (hw _ (List.mem_of_getElem? (i := 42) rfl)) (hw _ (List.mem_of_getElem? (i := 43) rfl)) e0 (g := (mkF m 1 (LS_RR r0 r1) [(.ref r0)])) rfl (by rw [hml]; rfl) rfl (hb hby d7_1) (by decide) (W := 0) (by show 2 * 0 + _ ≤ _; exact Nat.le_of_eq rfl) (by decide)
  refine own_go (B := T1.setTop (mkF m 4 (LS_RR r0 r1) [])) (fun t k => st1 _ k) ?_
  refine own_go (B := T1.setTop (mkF m 5 (LS_RR r0 r1) [(.ref r0)])) (fun t k => ?_) ?_
  · show Steps p.tables e below (T1.setTop (mkF m 4 (LS_RR r0 r1) [])) _
    refine XS.aloadN X1.here hx rfl (hb hby d7_4) rfl rfl ?_
    exact k
  obtain ⟨T2, h2, X2, e2, E2, A2, D2, -, st2⟩ := newO X1 hx hZ hown (hw _ (List.mem_of_getElem? (i := 65) rfl)) (hw _ (List.mem_of_getElem? (i := 66) rfl)) (hw _ (List.mem_of_getElem? (i := 67) rfl)) e1 (g := (mkF m 5 (LS_RR r0 r1) [(.ref r0)])) rfl (hb hby d7_5) (by decide) (by decide)
  obtain ⟨b2, g2⟩ : ∃ z, z = h0.size := ⟨_, rfl⟩
  rw [← g2] at A2 D2 st2
  have g_b2 : n0 ≤ b2 := Nat.le_trans Z0 (Nat.le_of_eq g2.symm)
  have sz_b2 : h0.size ≤ b2 := Nat.le_trans K0.1 (Nat.le_of_eq g2.symm)
  have F2_elements : Fld Z h2 b2 "java/util/ArrayDeque" "elements" "[Ljava/lang/Object;" .null := D2 (Or.inl (hw _ (List.mem_of_getElem? (i := 81) rfl))) (ty := (.array (.object "java/lang/Object"))) (by decide)
  have F2_head : Fld Z h2 b2 "java/util/ArrayDeque" "head" "I" (.int (0 : Int32)) := D2 (Or.inl (hw _ (List.mem_of_getElem? (i := 105) rfl))) (ty := .int) (by decide)
  have F2_tail : Fld Z h2 b2 "java/util/ArrayDeque" "tail" "I" (.int (0 : Int32)) := D2 (Or.inl (hw _ (List.mem_of_getElem? (i := 107) rfl))) (ty := .int) (by decide)
  refine own_go (B := T2.setTop (mkF m 8 (LS_RR r0 r1) [(.ref b2), (.ref r0)])) (fun t k => st2 _ k) ?_
  refine own_go (B := T2.setTop (mkF m 9 (LS_RR r0 r1) [(.ref b2), (.ref b2), (.ref r0)])) (fun t k => ?_) ?_
  · show Steps p.tables e below (T2.setTop (mkF m 8 (LS_RR r0 r1) [(.ref b2), (.ref r0)])) _
    refine XS.dup X2.here hx rfl (hb hby d7_8) rfl rfl ?_
    exact k
  have Z0_v3 := Nat.le_trans Z0 E2.1
  obtain ⟨_, _, ⟨T4, L4, k4, n4⟩, -, X4, ⟨Lc4, hQ4, l4, y4, z4⟩, st4⟩ := X2.specialBack hx (y := (⟨"java/util/ArrayDeque", "<init>", "()V"⟩ : MethodName)) rfl hown (mvT hZ (hw _ (List.mem_of_getElem? (i := 68) rfl))) (mvT hZ (hw _ (List.mem_of_getElem? (i := 69) rfl))) (mvT hZ (hw _ (List.mem_of_getElem? (i := 70) rfl))) (by decide) (backOf (W := 2) (rmadi l Z a0 hw [] b2 h2 n0 Z0_v3 A2 F2_elements F2_head F2_tail g_b2) hZ (hw _ (List.mem_of_getElem? (i := 70) rfl)) (hw _ (List.mem_of_getElem? (i := 67) rfl)) (by decide) (by decide)) (g := (mkF m 9 (LS_RR r0 r1) [(.ref b2), (.ref b2), (.ref r0)])) rfl (by rw [hml]; rfl) (Steps.refl _) (a := b2) (argsL := []) (rest := [(.ref b2), (.ref r0)]) (lenOf pd___V rfl) rfl (by show 2 * 0 + _ ≤ _; exact Nat.le_of_eq rfl) (hb hby d7_9) (fun _ _ => ⟨rfl, e2, (by decide : 1 + 1 ≤ _), (by decide : 3 + 17 ≤ _)⟩)
  dsimp only [Pt.U, Pt.locs, Pt.cells, Pt.slots] at X4 l4 y4 z4 st4 hQ4
  subst l4 y4 z4
  obtain ⟨ea4, ka4, rfl, N4q, K4, hfr4, Fe4, Fh4, Ft4, Va4, Ov4⟩ := hQ4
  have N4 := Fr.app N0 N4q
  have g_ea4 : n0 ≤ ea4 := Nat.le_trans Z0_v3 hfr4
  have K0_v5 := K0.ext E2
  have sz_ea4 : h0.size ≤ ea4 := Nat.le_trans K0_v5.1 hfr4
  refine own_go (B := T4.setTop (mkF m 12 (LS_RR r0 r1) [(.ref b2), (.ref r0)])) (fun t k => st4.trans k) ?_
  have E0_v6 := E0.ext E2
  have E0_v7 := E0_v6.keep K4
  have F0_v8 := F0.ext E2
  have ne10 : r0 ≠ b2 := Exa.ne E0_v6 A2 (by decide)
  have F0_v9 := F0_v8.keep K4 (ninS ne10 nin0)
  obtain ⟨T11, h11, X11, e11, W11, st11⟩ := putF X4 hx hZ hown (host := "") (Or.inl (hw _ (List.mem_of_getElem? (i := 82) rfl))) Via.refl rfl F0_v9 E0_v7 (Or.inr ⟨(hw _ (List.mem_of_getElem? (i := 83) rfl)), rfl, hnm⟩) (hw _ (List.mem_of_getElem? (i := 9) rfl)) (ty := (.object "java/util/ArrayDeque")) (by decide) rfl rfl (g := (mkF m 12 (LS_RR r0 r1) [(.ref b2), (.ref r0)])) rfl rfl (hb hby d7_12)
  have N11 := Fr.snoc X11 N4 g_r0
  have Fw11 := F0_v9.same W11
  refine own_go (B := T11.setTop (mkF m 15 (LS_RR r0 r1) [])) (fun t k => st11 _ k) ?_
  refine own_go (B := T11.setTop (mkF m 17 (LS_RR r0 r1) [(.ref r1), (.ref r0)])) (fun t k => ?_) ?_
  · show Steps p.tables e below (T11.setTop (mkF m 15 (LS_RR r0 r1) [])) _
    refine XS.aloadN X11.here hx rfl (hb hby d7_15) rfl rfl ?_
    show Steps p.tables e below (T11.setTop (mkF m 16 (LS_RR r0 r1) [(.ref r0)])) _
    refine XS.aloadN X11.here hx rfl (hb hby d7_16) rfl rfl ?_
    exact k
  have E0_v12 := E0_v7.wr W11
  have F1_v13 := F1.ext E2
  have F1_v14 := F1_v13.keep K4 (ninS ne10 nin0)
  have F1_v15 := F1_v14.other W11 (Or.inr (slot_ne (Or.inr (hw _ (List.mem_of_getElem? (i := 85) rfl))) (Or.inr (hw _ (List.mem_of_getElem? (i := 83) rfl))) (by decide) (t := (.object "com/example/blend2/blend2/Rule")) (t' := (.object "java/util/ArrayDeque")) (by decide) (by decide)))
  obtain ⟨T16, h16, X16, e16, W16, st16⟩ := putF X11 hx hZ hown (host := "") (Or.inl (hw _ (List.mem_of_getElem? (i := 84) rfl))) Via.refl e11 F1_v15 E0_v12 (Or.inr ⟨(hw _ (List.mem_of_getElem? (i := 85) rfl)), rfl, hnm⟩) (hw _ (List.mem_of_getElem? (i := 9) rfl)) (ty := (.object "com/example/blend2/blend2/Rule")) (by decide) rfl rfl (g := (mkF m 17 (LS_RR r0 r1) [(.ref r1), (.ref r0)])) rfl rfl (hb hby d7_17)
  have N16 := Fr.snoc X16 N11 g_r0
  have Fw16 := F1_v15.same W16
  refine own_go (B := T16.setTop (mkF m 20 (LS_RR r0 r1) [])) (fun t k => st16 _ k) ?_
  refine own_go (B := T16.setTop (mkF m 22 (LS_RR r0 r1) [(.ref r1), (.ref r0)])) (fun t k => ?_) ?_
  · show Steps p.tables e below (T16.setTop (mkF m 20 (LS_RR r0 r1) [])) _
    refine XS.aloadN X16.here hx rfl (hb hby d7_20) rfl rfl ?_
    show Steps p.tables e below (T16.setTop (mkF m 21 (LS_RR r0 r1) [(.ref r0)])) _
    refine XS.aloadN X16.here hx rfl (hb hby d7_21) rfl rfl ?_
    exact k
  have Fr1_v17 := Fr1.ext E2
  have Er_v20 := Er.ext E2
  have ne19 : r1 ≠ b2 := Exa.ne Er_v20 A2 (by decide)
  have Fr1_v18 := Fr1_v17.keep K4 (ninS ne19 nin0)
  have ne22 : r1 ≠ r0 := Exa.ne Er E0 (by decide)
  have Fr1_v21 := Fr1_v18.other W11 (Or.inl ne22)
  have Fr1_v23 := Fr1_v21.other W16 (Or.inl ne22)
  have Z0_v24 := Nat.le_trans Z0_v3 K4.1
  have Z0_v25 := Nat.le_trans Z0_v24 (Nat.le_of_eq W11.size.symm)
  have Z0_v26 := Nat.le_trans Z0_v25 (Nat.le_of_eq W16.size.symm)
  have Er_v28 := Er_v20.keep K4
  have Er_v29 := Er_v28.wr W11
  have Er_v30 := Er_v29.wr W16
  obtain ⟨cq27, kq27, q27a, q27b, q27c⟩ := isOf hZ e16 Er_v30
  obtain ⟨_, _, ⟨T27, L27, k27, n27⟩, -, X27, ⟨Lc27, hQ27, l27, y27, z27⟩, st27⟩ := X16.virtualBack hx (y := (⟨"com/example/blend2/blend2/Rule", "timeWindowSec", "()I"⟩ : MethodName)) (z := (⟨"com/example/blend2/blend2/Rule", "timeWindowSec", "()I"⟩ : MethodName)) hown (mvT hZ (hw _ (List.mem_of_getElem? (i := 86) rfl))) (mvT hZ (hw _ (List.mem_of_getElem? (i := 87) rfl))) (notFace_of_selects (args := #[]) (mvT hZ (hw _ (List.mem_of_getElem? (i := 89) rfl)))) (mvT hZ (hw _ (List.mem_of_getElem? (i := 89) rfl))) (mvT hZ (hw _ (List.mem_of_getElem? (i := 88) rfl))) (by decide) (backOf (W := 1) (rmgtimeWindowSec l Z a0 hw [] r1 p2 h16 n0 Z0_v26 Fr1_v23) hZ (hw _ (List.mem_of_getElem? (i := 90) rfl)) (hw _ (List.mem_of_getElem? (i := 13) rfl)) (by decide) (by decide)) q27a q27c (g := (mkF m 22 (LS_RR r0 r1) [(.ref r1), (.ref r0)])) rfl (by rw [hml]; rfl) (Steps.refl _) (argsL := []) (rest := [(.ref r0)]) (lenOf pd___I rfl) rfl (by show 2 * 0 + _ ≤ _; exact Nat.le_of_eq rfl) (hb hby d7_22) (fun _ _ => ⟨rfl, e16, (by decide : 2 + 0 ≤ _), (by decide : 20 + 0 ≤ _)⟩)
  dsimp only [Pt.U, Pt.locs, Pt.cells, Pt.slots] at X27 l27 y27 z27 st27 hQ27
  subst l27 y27 z27
  obtain ⟨rfl, N27q, e27⟩ := hQ27
  have N27 := Fr.app N16 N27q
  refine own_go (B := T27.setTop (mkF m 25 (LS_RR r0 r1) [(.int p2), (.ref r0)])) (fun t k => st27.trans k) ?_
  refine own_go (B := T27.setTop (mkF m 30 (LS_RR r0 r1) [(.long ((p2.toInt64) * (1000 : Int64))), (.ref r0)])) (fun t k => ?_) ?_
  · show Steps p.tables e below (T27.setTop (mkF m 25 (LS_RR r0 r1) [(.int p2), (.ref r0)])) _
    refine XS.i2l X27.here hx rfl (hb hby d7_25) rfl ?_
    show Steps p.tables e below (T27.setTop (mkF m 26 (LS_RR r0 r1) [(.long (p2.toInt64)), (.ref r0)])) _
    refine X27.ldc2Long hx hown (mvT hZ (hw _ (List.mem_of_getElem? (i := 91) rfl))) (g := (mkF m 26 (LS_RR r0 r1) [(.long (p2.toInt64)), (.ref r0)])) rfl (hb hby d7_26) _ ?_
    show Steps p.tables e below (T27.setTop (mkF m 29 (LS_RR r0 r1) [(.long (1000 : Int64)), (.long (p2.toInt64)), (.ref r0)])) _
    refine XS.lmul X27.here hx rfl (hb hby d7_29) rfl ?_
    exact k
  have E0_v31 := E0_v12.wr W16
  have F2_v32 := F2.ext E2
  have F2_v33 := F2_v32.keep K4 (ninS ne10 nin0)
  have F2_v34 := F2_v33.other W11 (Or.inr (slot_ne (Or.inr (hw _ (List.mem_of_getElem? (i := 93) rfl))) (Or.inr (hw _ (List.mem_of_getElem? (i := 83) rfl))) (by decide) (t := .long) (t' := (.object "java/util/ArrayDeque")) (by decide) (by decide)))
  have F2_v35 := F2_v34.other W16 (Or.inr (slot_ne (Or.inr (hw _ (List.mem_of_getElem? (i := 93) rfl))) (Or.inr (hw _ (List.mem_of_getElem? (i := 85) rfl))) (by decide) (t := .long) (t' := (.object "com/example/blend2/blend2/Rule")) (by decide) (by decide)))
  obtain ⟨T36, h36, X36, e36, W36, st36⟩ := putF X27 hx hZ hown (host := "") (Or.inl (hw _ (List.mem_of_getElem? (i := 92) rfl))) Via.refl e27 F2_v35 E0_v31 (Or.inr ⟨(hw _ (List.mem_of_getElem? (i := 93) rfl)), rfl, hnm⟩) (hw _ (List.mem_of_getElem? (i := 9) rfl)) (ty := .long) (by decide) rfl rfl (g := (mkF m 30 (LS_RR r0 r1) [(.long ((p2.toInt64) * (1000 : Int64))), (.ref r0)])) rfl rfl (hb hby d7_30)
  have N36 := Fr.snoc X36 N27 g_r0
  have Fw36 := F2_v35.same W36
  refine own_go (B := T36.setTop (mkF m 33 (LS_RR r0 r1) [])) (fun t k => st36 _ k) ?_
  obtain ⟨fs, hr, hrun, hended, hW, hsame⟩ := X36.leave (v := none) (fun _ => rfl) (BodyLoose.notSynchronized Bd)
  refine ⟨_, _, ?_, hrun, hended, _, _, rfl, ?_, ⟨_, rfl⟩, hW, hsame.mono (by decide) (by decide)⟩
  · show Steps p.tables e below (T36.setTop (mkF m 33 (LS_RR r0 r1) [])) _
    exact X36.returnOut hx Bd.returns (hb hby d7_33) hr
  · show Qswi Z r0 r1 p2 h0 n0 _ T36.heap _
    rw [e36]
    have K0_v37 := K0_v5.trans K4 (allS (Or.inr sz_b2) all0)
    have K0_v38 := K0_v37.wr W11 (Or.inl (List.mem_of_getElem? (i := 0) rfl))
    have K0_v39 := K0_v38.wr W16 (Or.inl (List.mem_of_getElem? (i := 0) rfl))
    have K0_v40 := K0_v39.wr W36 (Or.inl (List.mem_of_getElem? (i := 0) rfl))
    have A2_v41 := A2.keep K4
    have A2_v42 := A2_v41.wr W11
    have A2_v43 := A2_v42.wr W16
    have A2_v44 := A2_v43.wr W36
    have Fe4_v45 := Fe4.other W11 (Or.inl (Ne.symm ne10))
    have Fe4_v46 := Fe4_v45.other W16 (Or.inl (Ne.symm ne10))
    have Fe4_v47 := Fe4_v46.other W36 (Or.inl (Ne.symm ne10))
    have Fh4_v48 := Fh4.other W11 (Or.inl (Ne.symm ne10))
    have Fh4_v49 := Fh4_v48.other W16 (Or.inl (Ne.symm ne10))
    have Fh4_v50 := Fh4_v49.other W36 (Or.inl (Ne.symm ne10))
    have Ft4_v51 := Ft4.other W11 (Or.inl (Ne.symm ne10))
    have Ft4_v52 := Ft4_v51.other W16 (Or.inl (Ne.symm ne10))
    have Ft4_v53 := Ft4_v52.other W36 (Or.inl (Ne.symm ne10))
    have ne55 : r0 ≠ ea4 := Exa.neArv E0_v7 Va4 (hw _ (List.mem_of_getElem? (i := 9) rfl))
    have Va4_v54 := Va4.other W11 (Ne.symm ne55)
    have Va4_v56 := Va4_v54.other W16 (Ne.symm ne55)
    have Va4_v57 := Va4_v56.other W36 (Ne.symm ne55)
    have Fw11_v58 := Fw11.other W16 (Or.inr (slot_ne (Or.inr (hw _ (List.mem_of_getElem? (i := 83) rfl))) (Or.inr (hw _ (List.mem_of_getElem? (i := 85) rfl))) (by decide) (t := (.object "java/util/ArrayDeque")) (t' := (.object "com/example/blend2/blend2/Rule")) (by decide) (by decide)))
    have Fw11_v59 := Fw11_v58.other W36 (Or.inr (slot_ne (Or.inr (hw _ (List.mem_of_getElem? (i := 83) rfl))) (Or.inr (hw _ (List.mem_of_getElem? (i := 93) rfl))) (by decide) (t := (.object "java/util/ArrayDeque")) (t' := .long) (by decide) (by decide)))
    have Fw16_v60 := Fw16.other W36 (Or.inr (slot_ne (Or.inr (hw _ (List.mem_of_getElem? (i := 85) rfl))) (Or.inr (hw _ (List.mem_of_getElem? (i := 93) rfl))) (by decide) (t := (.object "com/example/blend2/blend2/Rule")) (t' := .long) (by decide) (by decide)))
    exact ⟨b2, ea4, ka4, rfl, N36, K0_v40, sz_b2, sz_ea4, A2_v44, Fe4_v47, Fh4_v50, Ft4_v53, Va4_v57, Ov4, Fw11_v59, Fw16_v60, Fw36⟩
theorem ef_idl00_0_0 (m : MethodId) (r0 : Addr) (q1 : Int64) : entryFrame m #[(.ref r0), (.long q1)] 3 = mkF m 0 #[.val (.ref r0), .val (.long q1), .second] [] := by first | (simp [entryFrame, mkF, argsToLocals, Value.category]; done) | rfl
theorem pn_11 : plainName "com/example/blend2/blend2/SlidingWindowLog" = true := by first | (simp [plainName, overriddenIn]; done) | decide +kernel
theorem d11_0 : decode prog_12_method_3_code 0 = .ok (.aload_n 0, 1) := by decide +kernel
theorem d11_1 : decode prog_12_method_3_code 1 = .ok (.getfield 10, 3) := by decide +kernel
theorem d11_4 : decode prog_12_method_3_code 4 = .ok (.invokevirtual 32, 3) := by decide +kernel
theorem d11_7 : decode prog_12_method_3_code 7 = .ok (.ifCond .ne 26, 3) := by decide +kernel
theorem d11_33 : decode prog_12_method_3_code 33 = .ok (.iconst 1, 1) := by decide +kernel
theorem d11_34 : decode prog_12_method_3_code 34 = .ok (.goto 4, 3) := by decide +kernel
theorem d11_38 : decode prog_12_method_3_code 38 = .ok (.ireturn, 1) := by decide +kernel
def Qidl00_0_0 (Z : State) (r0 : Addr) (q1 : Int64) (da ea : Addr) (ka : ClassId) (wm : Int64) (h0 : Heap) (n0 : Nat) (v : Option Value) (h : Heap) (L : List Loc) : Prop := v = some (.int (1 : Int32)) ∧ Fr n0 L ∧ h = h0
set_option maxRecDepth 65536 in
set_option maxHeartbeats 40000000 in
theorem rmidl00_0_0 (l : Launch) (Z : State) (a0 : Array Value) (hw : ∀ d ∈ tables_1, d.before a0 Z = true) (ws : List Jvm.Cond) (r0 : Addr) (q1 : Int64) (da ea : Addr) (ka : ClassId) (wm : Int64) (h0 : Heap) (n0 : Nat) (Z0 : n0 ≤ h0.size) (E0 : Exa Z h0 r0 "com/example/blend2/blend2/SlidingWindowLog") (G0 : Fld Z h0 r0 "com/example/blend2/blend2/SlidingWindowLog" "admitted" "Ljava/util/ArrayDeque;" (.ref da)) (G2 : Fld Z h0 r0 "com/example/blend2/blend2/SlidingWindowLog" "windowMillis" "J" (.long wm)) (Ed : Exa Z h0 da "java/util/ArrayDeque") (P0 : Fld Z h0 da "java/util/ArrayDeque" "elements" "[Ljava/lang/Object;" (.ref ea)) (P1 : Fld Z h0 da "java/util/ArrayDeque" "head" "I" (.int (0 : Int32))) (P2 : Fld Z h0 da "java/util/ArrayDeque" "tail" "I" (.int (0 : Int32))) (P3 : Arv Z h0 ea ka (.object "java/lang/Object") (17 : Int32) [.null, .null, .null, .null, .null, .null, .null, .null, .null, .null, .null, .null, .null, .null, .null, .null, .null] .null) (Ov : Ovr Z ka "java/lang/Object") (g_da : n0 ≤ da) (g_ea : n0 ≤ ea) :
    MetFree l (⟨"com/example/blend2/blend2/SlidingWindowLog", "isIdleAt", "(J)Z"⟩ : MethodName) (head1 (Jvm.Cond.code (⟨"com/example/blend2/blend2/SlidingWindowLog", "isIdleAt", "(J)Z"⟩ : MethodName) prog_12_method_3_code 3 (some .boolean) :: ws) ({ frames := 2, cells := 0, slots := 0, locals := 50 } : Room)) (fun a U => a = #[(.ref r0), (.long q1)] ∧ Z.Warmed39 U.vm ∧ U.heap = h0) (fun _ _ _ _ _ => True) (fun _ U o U' => ∃ v L, o = .returned v ∧ Qidl00_0_0 Z r0 q1 da ea ka wm h0 n0 v U'.heap L ∧ FrameEnd U o U' L ({ frames := 2, cells := 0, slots := 0, locals := 50 } : Room).cells ({ frames := 2, cells := 0, slots := 0, locals := 50 } : Room).slots) := by
  refine MetFree.of_bodySF (plainFor_of_name pn_11) hisR ?_
  intro p e s m args below meth c s₁ Bd hml0 hP hK
  obtain ⟨rfl, hZ, hh⟩ := hP
  have hx := Bd.exec
  have hby := Bd.bytes
  have hml : c.maxLocals = 3 := hml0
  have hown : s.vm.findClass "com/example/blend2/blend2/SlidingWindowLog" = some m.cls := findClass_of_methodNamed Bd.named
  have hnm := (name_of_methodNamed Bd.named Bd.method).1
  have X0 : Stand p l e ({ frames := 2, cells := 0, slots := 0, locals := 50 } : Room) s m #[(.ref r0), (.long q1)] below meth c s₁ [] 0 0 := Stand.of_body Bd
  have e0 : s₁.heap = h0 := by rw [← hh, Bd.state]; rfl
  have N0 := Fr.nil n0
  refine own_go (B := s₁.setTop (mkF m 0 (LS_RJs r0 q1) [])) (fun t k => castTop (ef_idl00_0_0 m r0 q1) k) ?_
  refine own_go (B := s₁.setTop (mkF m 1 (LS_RJs r0 q1) [(.ref r0)])) (fun t k => ?_) ?_
  · show Steps p.tables e below (s₁.setTop (mkF m 0 (LS_RJs r0 q1) [])) _
    refine XS.aloadN X0.here hx rfl (hb hby d11_0) rfl rfl ?_
    exact k
  obtain ⟨T1, X1, e1, st1⟩ := getF X0 hx hZ hown (host := "") (Or.inl (hw _ (List.mem_of_getElem? (i := 82) rfl))) Via.refl e0 G0 (g := (mkF m 1 (LS_RJs r0 q1) [(.ref r0)])) rfl rfl (hb hby d11_1)
  refine own_go (B := T1.setTop (mkF m 4 (LS_RJs r0 q1) [(.ref da)])) (fun t k => st1 _ k) ?_
  obtain ⟨cq2, kq2, q2a, q2b, q2c⟩ := isOf hZ e1 Ed
  obtain ⟨_, _, ⟨T2, L2, k2, n2⟩, -, X2, ⟨Lc2, hQ2, l2, y2, z2⟩, st2⟩ := X1.virtualBack hx (y := (⟨"java/util/ArrayDeque", "isEmpty", "()Z"⟩ : MethodName)) (z := (⟨"java/util/ArrayDeque", "isEmpty", "()Z"⟩ : MethodName)) hown (mvT hZ (hw _ (List.mem_of_getElem? (i := 99) rfl))) (mvT hZ (hw _ (List.mem_of_getElem? (i := 100) rfl))) (notFace_of_selects (args := #[]) (mvT hZ (hw _ (List.mem_of_getElem? (i := 102) rfl)))) (mvT hZ (hw _ (List.mem_of_getElem? (i := 102) rfl))) (mvT hZ (hw _ (List.mem_of_getElem? (i := 101) rfl))) (by decide) (backOf (W := 0) (rmemp l Z a0 hw [] da (0 : Int32) (0 : Int32) h0 n0 Z0 P1 P2) hZ (hw _ (List.mem_of_getElem? (i := 103) rfl)) (hw _ (List.mem_of_getElem? (i := 67) rfl)) (by decide) (by decide)) q2a q2c (g := (mkF m 4 (LS_RJs r0 q1) [(.ref da)])) rfl (by rw [hml]; rfl) (Steps.refl _) (argsL := []) (rest := []) (lenOf pd___Z rfl) rfl (by show 2 * 0 + _ ≤ _; exact Nat.le_of_eq rfl) (hb hby d11_4) (fun _ _ => ⟨rfl, e1, (by decide : 0 + 0 ≤ _), (by decide : 0 + 0 ≤ _)⟩)
  dsimp only [Pt.U, Pt.locs, Pt.cells, Pt.slots] at X2 l2 y2 z2 st2 hQ2
  subst l2 y2 z2
  obtain ⟨rfl, N2q, e2⟩ := hQ2
  have N2 := Fr.app N0 N2q
  refine own_go (B := T2.setTop (mkF m 7 (LS_RJs r0 q1) [(.int (if (0 : Int32) = (0 : Int32) then (1 : Int32) else (0 : Int32)))])) (fun t k => st2.trans k) ?_
  rw [show (if (0 : Int32) = (0 : Int32) then (1 : Int32) else (0 : Int32)) = (1 : Int32) from by decide]
  refine own_go (B := T2.setTop (mkF m 38 (LS_RJs r0 q1) [(.int (1 : Int32))])) (fun t k => ?_) ?_
  · show Steps p.tables e below (T2.setTop (mkF m 7 (LS_RJs r0 q1) [(.int (1 : Int32))])) _
    refine XS.ifYes X2.here hx rfl (pc0 := 7) (pc' := 33) rfl (hb hby d11_7) rfl ((if0 _ _).trans (feq (by decide : ¬ ((1 : Int32) = (0 : Int32)))).2) (by decide) (by decide) ?_
    show Steps p.tables e below (T2.setTop (mkF m 33 (LS_RJs r0 q1) [])) _
    refine XS.iconst X2.here hx rfl (hb hby d11_33) ?_
    show Steps p.tables e below (T2.setTop (mkF m 34 (LS_RJs r0 q1) [(.int (1 : Int32))])) _
    refine XS.goto X2.here hx rfl (pc0 := 34) (pc' := 38) rfl (hb hby d11_34) (by decide) (by decide) ?_
    exact k
  obtain ⟨fs, hr, hrun, hended, hW, hsame⟩ := X2.leave (v := some (.int (1 : Int32))) (fun h => by rw [Bd.returns] at h; cases h) (BodyLoose.notSynchronized Bd)
  refine ⟨_, _, ?_, hrun, hended, _, _, rfl, ?_, ⟨_, rfl⟩, hW, hsame.mono (by decide) (by decide)⟩
  · show Steps p.tables e below (T2.setTop (mkF m 38 (LS_RJs r0 q1) [(.int (1 : Int32))])) _
    exact retN X2 hx (t := .boolean) Bd.returns (by simp) (hb hby d11_38) hr
  · show Qidl00_0_0 Z r0 q1 da ea ka wm h0 n0 _ T2.heap _
    rw [e2]
    exact ⟨rfl, N2, rfl⟩
theorem ef_idl10_0_1 (m : MethodId) (r0 : Addr) (q1 : Int64) : entryFrame m #[(.ref r0), (.long q1)] 3 = mkF m 0 #[.val (.ref r0), .val (.long q1), .second] [] := by first | (simp [entryFrame, mkF, argsToLocals, Value.category]; done) | rfl
theorem d11_10 : decode prog_12_method_3_code 10 = .ok (.aload_n 0, 1) := by decide +kernel
theorem d11_11 : decode prog_12_method_3_code 11 = .ok (.getfield 10, 3) := by decide +kernel
theorem d11_14 : decode prog_12_method_3_code 14 = .ok (.invokevirtual 78, 3) := by decide +kernel
theorem d11_17 : decode prog_12_method_3_code 17 = .ok (.checkcast 40, 3) := by decide +kernel
theorem d11_20 : decode prog_12_method_3_code 20 = .ok (.invokevirtual 42, 3) := by decide +kernel
theorem pd___J : parseMethodDescriptor "()J" = some ⟨[], some .long⟩ := by decide +kernel
theorem d11_23 : decode prog_12_method_3_code 23 = .ok (.lload_n 1, 1) := by decide +kernel
theorem d11_24 : decode prog_12_method_3_code 24 = .ok (.aload_n 0, 1) := by decide +kernel
theorem d11_25 : decode prog_12_method_3_code 25 = .ok (.getfield 28, 3) := by decide +kernel
theorem d11_28 : decode prog_12_method_3_code 28 = .ok (.lsub, 1) := by decide +kernel
theorem d11_29 : decode prog_12_method_3_code 29 = .ok (.lcmp, 1) := by decide +kernel
theorem d11_30 : decode prog_12_method_3_code 30 = .ok (.ifCond .gt 7, 3) := by decide +kernel
theorem d11_37 : decode prog_12_method_3_code 37 = .ok (.iconst 0, 1) := by decide +kernel
def Qidl10_0_1 (Z : State) (r0 : Addr) (q1 : Int64) (da ea : Addr) (ka : ClassId) (wm : Int64) (x0 : Addr) (v0 : Int64) (h0 : Heap) (n0 : Nat) (v : Option Value) (h : Heap) (L : List Loc) : Prop := v = some (.int (if (q1 - wm) < v0 then (0 : Int32) else (1 : Int32))) ∧ Fr n0 L ∧ h = h0
set_option maxRecDepth 65536 in
set_option maxHeartbeats 40000000 in
theorem rmidl10_0_1 (l : Launch) (Z : State) (a0 : Array Value) (hw : ∀ d ∈ tables_1, d.before a0 Z = true) (ws : List Jvm.Cond) (r0 : Addr) (q1 : Int64) (da ea : Addr) (ka : ClassId) (wm : Int64) (x0 : Addr) (v0 : Int64) (h0 : Heap) (n0 : Nat) (Z0 : n0 ≤ h0.size) (E0 : Exa Z h0 r0 "com/example/blend2/blend2/SlidingWindowLog") (G0 : Fld Z h0 r0 "com/example/blend2/blend2/SlidingWindowLog" "admitted" "Ljava/util/ArrayDeque;" (.ref da)) (G2 : Fld Z h0 r0 "com/example/blend2/blend2/SlidingWindowLog" "windowMillis" "J" (.long wm)) (Ed : Exa Z h0 da "java/util/ArrayDeque") (P0 : Fld Z h0 da "java/util/ArrayDeque" "elements" "[Ljava/lang/Object;" (.ref ea)) (P1 : Fld Z h0 da "java/util/ArrayDeque" "head" "I" (.int (0 : Int32))) (P2 : Fld Z h0 da "java/util/ArrayDeque" "tail" "I" (.int (1 : Int32))) (P3 : Arv Z h0 ea ka (.object "java/lang/Object") (17 : Int32) [(.ref x0), .null, .null, .null, .null, .null, .null, .null, .null, .null, .null, .null, .null, .null, .null, .null, .null] .null) (Ov : Ovr Z ka "java/lang/Object") (g_da : n0 ≤ da) (g_ea : n0 ≤ ea) (Ex0 : Exa Z h0 x0 "java/lang/Long") (Fx0 : Fld Z h0 x0 "java/lang/Long" "value" "J" (.long v0)) :
    MetFree l (⟨"com/example/blend2/blend2/SlidingWindowLog", "isIdleAt", "(J)Z"⟩ : MethodName) (head1 (Jvm.Cond.code (⟨"com/example/blend2/blend2/SlidingWindowLog", "isIdleAt", "(J)Z"⟩ : MethodName) prog_12_method_3_code 3 (some .boolean) :: ws) ({ frames := 2, cells := 0, slots := 0, locals := 50 } : Room)) (fun a U => a = #[(.ref r0), (.long q1)] ∧ Z.Warmed39 U.vm ∧ U.heap = h0) (fun _ _ _ _ _ => True) (fun _ U o U' => ∃ v L, o = .returned v ∧ Qidl10_0_1 Z r0 q1 da ea ka wm x0 v0 h0 n0 v U'.heap L ∧ FrameEnd U o U' L ({ frames := 2, cells := 0, slots := 0, locals := 50 } : Room).cells ({ frames := 2, cells := 0, slots := 0, locals := 50 } : Room).slots) := by
  refine MetFree.of_bodySF (plainFor_of_name pn_11) hisR ?_
  intro p e s m args below meth c s₁ Bd hml0 hP hK
  obtain ⟨rfl, hZ, hh⟩ := hP
  have hx := Bd.exec
  have hby := Bd.bytes
  have hml : c.maxLocals = 3 := hml0
  have hown : s.vm.findClass "com/example/blend2/blend2/SlidingWindowLog" = some m.cls := findClass_of_methodNamed Bd.named
  have hnm := (name_of_methodNamed Bd.named Bd.method).1
  have X0 : Stand p l e ({ frames := 2, cells := 0, slots := 0, locals := 50 } : Room) s m #[(.ref r0), (.long q1)] below meth c s₁ [] 0 0 := Stand.of_body Bd
  have e0 : s₁.heap = h0 := by rw [← hh, Bd.state]; rfl
  have N0 := Fr.nil n0
  refine own_go (B := s₁.setTop (mkF m 0 (LS_RJs r0 q1) [])) (fun t k => castTop (ef_idl10_0_1 m r0 q1) k) ?_
  refine own_go (B := s₁.setTop (mkF m 1 (LS_RJs r0 q1) [(.ref r0)])) (fun t k => ?_) ?_
  · show Steps p.tables e below (s₁.setTop (mkF m 0 (LS_RJs r0 q1) [])) _
    refine XS.aloadN X0.here hx rfl (hb hby d11_0) rfl rfl ?_
    exact k
  obtain ⟨T1, X1, e1, st1⟩ := getF X0 hx hZ hown (host := "") (Or.inl (hw _ (List.mem_of_getElem? (i := 82) rfl))) Via.refl e0 G0 (g := (mkF m 1 (LS_RJs r0 q1) [(.ref r0)])) rfl rfl (hb hby d11_1)
  refine own_go (B := T1.setTop (mkF m 4 (LS_RJs r0 q1) [(.ref da)])) (fun t k => st1 _ k) ?_
  obtain ⟨cq2, kq2, q2a, q2b, q2c⟩ := isOf hZ e1 Ed
  obtain ⟨_, _, ⟨T2, L2, k2, n2⟩, -, X2, ⟨Lc2, hQ2, l2, y2, z2⟩, st2⟩ := X1.virtualBack hx (y := (⟨"java/util/ArrayDeque", "isEmpty", "()Z"⟩ : MethodName)) (z := (⟨"java/util/ArrayDeque", "isEmpty", "()Z"⟩ : MethodName)) hown (mvT hZ (hw _ (List.mem_of_getElem? (i := 99) rfl))) (mvT hZ (hw _ (List.mem_of_getElem? (i := 100) rfl))) (notFace_of_selects (args := #[]) (mvT hZ (hw _ (List.mem_of_getElem? (i := 102) rfl)))) (mvT hZ (hw _ (List.mem_of_getElem? (i := 102) rfl))) (mvT hZ (hw _ (List.mem_of_getElem? (i := 101) rfl))) (by decide) (backOf (W := 0) (rmemp l Z a0 hw [] da (0 : Int32) (1 : Int32) h0 n0 Z0 P1 P2) hZ (hw _ (List.mem_of_getElem? (i := 103) rfl)) (hw _ (List.mem_of_getElem? (i := 67) rfl)) (by decide) (by decide)) q2a q2c (g := (mkF m 4 (LS_RJs r0 q1) [(.ref da)])) rfl (by rw [hml]; rfl) (Steps.refl _) (argsL := []) (rest := []) (lenOf pd___Z rfl) rfl (by show 2 * 0 + _ ≤ _; exact Nat.le_of_eq rfl) (hb hby d11_4) (fun _ _ => ⟨rfl, e1, (by decide : 0 + 0 ≤ _), (by decide : 0 + 0 ≤ _)⟩)
  dsimp only [Pt.U, Pt.locs, Pt.cells, Pt.slots] at X2 l2 y2 z2 st2 hQ2
  subst l2 y2 z2
  obtain ⟨rfl, N2q, e2⟩ := hQ2
  have N2 := Fr.app N0 N2q
  refine own_go (B := T2.setTop (mkF m 7 (LS_RJs r0 q1) [(.int (if (0 : Int32) = (1 : Int32) then (1 : Int32) else (0 : Int32)))])) (fun t k => st2.trans k) ?_
  rw [show (if (0 : Int32) = (1 : Int32) then (1 : Int32) else (0 : Int32)) = (0 : Int32) from by decide]
  refine own_go (B := T2.setTop (mkF m 11 (LS_RJs r0 q1) [(.ref r0)])) (fun t k => ?_) ?_
  · show Steps p.tables e below (T2.setTop (mkF m 7 (LS_RJs r0 q1) [(.int (0 : Int32))])) _
    refine XS.ifNo X2.here hx rfl (hb hby d11_7) rfl ((if0 _ _).trans (teq (by decide : (0 : Int32) = (0 : Int32))).2) ?_
    show Steps p.tables e below (T2.setTop (mkF m 10 (LS_RJs r0 q1) [])) _
    refine XS.aloadN X2.here hx rfl (hb hby d11_10) rfl rfl ?_
    exact k
  obtain ⟨T3, X3, e3, st3⟩ := getF X2 hx hZ hown (host := "") (Or.inl (hw _ (List.mem_of_getElem? (i := 82) rfl))) Via.refl e2 G0 (g := (mkF m 11 (LS_RJs r0 q1) [(.ref r0)])) rfl rfl (hb hby d11_11)
  refine own_go (B := T3.setTop (mkF m 14 (LS_RJs r0 q1) [(.ref da)])) (fun t k => st3 _ k) ?_
  obtain ⟨cq4, kq4, q4a, q4b, q4c⟩ := isOf hZ e3 Ed
  obtain ⟨_, _, ⟨T4, L4, k4, n4⟩, -, X4, ⟨Lc4, hQ4, l4, y4, z4⟩, st4⟩ := X3.virtualBack hx (y := (⟨"java/util/ArrayDeque", "peekLast", "()Ljava/lang/Object;"⟩ : MethodName)) (z := (⟨"java/util/ArrayDeque", "peekLast", "()Ljava/lang/Object;"⟩ : MethodName)) hown (mvT hZ (hw _ (List.mem_of_getElem? (i := 233) rfl))) (mvT hZ (hw _ (List.mem_of_getElem? (i := 234) rfl))) (notFace_of_selects (args := #[]) (mvT hZ (hw _ (List.mem_of_getElem? (i := 236) rfl)))) (mvT hZ (hw _ (List.mem_of_getElem? (i := 236) rfl))) (mvT hZ (hw _ (List.mem_of_getElem? (i := 235) rfl))) (by decide) (backOf (W := 0) (rmpeekLast10_0_1 l Z a0 hw [] da ea ka x0 h0 n0 Z0 Ed P0 P1 P2 P3 Ov g_da g_ea) hZ (hw _ (List.mem_of_getElem? (i := 237) rfl)) (hw _ (List.mem_of_getElem? (i := 67) rfl)) (by decide) (by decide)) q4a q4c (g := (mkF m 14 (LS_RJs r0 q1) [(.ref da)])) rfl (by rw [hml]; rfl) (Steps.refl _) (argsL := []) (rest := []) (lenOf pd___Ljava_lang_Object_ rfl) rfl (by show 2 * 0 + _ ≤ _; exact Nat.le_of_eq rfl) (hb hby d11_14) (fun _ _ => ⟨rfl, e3, (by decide : 0 + 0 ≤ _), (by decide : 0 + 0 ≤ _)⟩)
  dsimp only [Pt.U, Pt.locs, Pt.cells, Pt.slots] at X4 l4 y4 z4 st4 hQ4
  subst l4 y4 z4
  obtain ⟨rfl, N4q, e4⟩ := hQ4
  have N4 := Fr.app N2 N4q
  refine own_go (B := T4.setTop (mkF m 17 (LS_RJs r0 q1) [(.ref x0)])) (fun t k => st4.trans k) ?_
  obtain ⟨T5, X5, e5, st5⟩ := castY X4 hx hZ hown (hw _ (List.mem_of_getElem? (i := 217) rfl)) e4 (Ins.self Ex0) (g := (mkF m 17 (LS_RJs r0 q1) [(.ref x0)])) rfl rfl (hb hby d11_17)
  refine own_go (B := T5.setTop (mkF m 20 (LS_RJs r0 q1) [(.ref x0)])) (fun t k => st5 _ k) ?_
  obtain ⟨cq6, kq6, q6a, q6b, q6c⟩ := isOf hZ e5 Ex0
  obtain ⟨_, _, ⟨T6, L6, k6, n6⟩, -, X6, ⟨Lc6, hQ6, l6, y6, z6⟩, st6⟩ := X5.virtualBack hx (y := (⟨"java/lang/Long", "longValue", "()J"⟩ : MethodName)) (z := (⟨"java/lang/Long", "longValue", "()J"⟩ : MethodName)) hown (mvT hZ (hw _ (List.mem_of_getElem? (i := 218) rfl))) (mvT hZ (hw _ (List.mem_of_getElem? (i := 219) rfl))) (notFace_of_selects (args := #[]) (mvT hZ (hw _ (List.mem_of_getElem? (i := 221) rfl)))) (mvT hZ (hw _ (List.mem_of_getElem? (i := 221) rfl))) (mvT hZ (hw _ (List.mem_of_getElem? (i := 220) rfl))) (by decide) (backOf (W := 0) (rmlov l Z a0 hw [] x0 v0 h0 n0 Z0 Fx0) hZ (hw _ (List.mem_of_getElem? (i := 222) rfl)) (hw _ (List.mem_of_getElem? (i := 128) rfl)) (by decide) (by decide)) q6a q6c (g := (mkF m 20 (LS_RJs r0 q1) [(.ref x0)])) rfl (by rw [hml]; rfl) (Steps.refl _) (argsL := []) (rest := []) (lenOf pd___J rfl) rfl (by show 2 * 0 + _ ≤ _; exact Nat.le_of_eq rfl) (hb hby d11_20) (fun _ _ => ⟨rfl, e5, (by decide : 0 + 0 ≤ _), (by decide : 0 + 0 ≤ _)⟩)
  dsimp only [Pt.U, Pt.locs, Pt.cells, Pt.slots] at X6 l6 y6 z6 st6 hQ6
  subst l6 y6 z6
  obtain ⟨rfl, N6q, e6⟩ := hQ6
  have N6 := Fr.app N4 N6q
  refine own_go (B := T6.setTop (mkF m 23 (LS_RJs r0 q1) [(.long v0)])) (fun t k => st6.trans k) ?_
  refine own_go (B := T6.setTop (mkF m 25 (LS_RJs r0 q1) [(.ref r0), (.long q1), (.long v0)])) (fun t k => ?_) ?_
  · show Steps p.tables e below (T6.setTop (mkF m 23 (LS_RJs r0 q1) [(.long v0)])) _
    refine XS.lloadN X6.here hx rfl (hb hby d11_23) rfl ?_
    show Steps p.tables e below (T6.setTop (mkF m 24 (LS_RJs r0 q1) [(.long q1), (.long v0)])) _
    refine XS.aloadN X6.here hx rfl (hb hby d11_24) rfl rfl ?_
    exact k
  obtain ⟨T7, X7, e7, st7⟩ := getF X6 hx hZ hown (host := "") (Or.inl (hw _ (List.mem_of_getElem? (i := 92) rfl))) Via.refl e6 G2 (g := (mkF m 25 (LS_RJs r0 q1) [(.ref r0), (.long q1), (.long v0)])) rfl rfl (hb hby d11_25)
  refine own_go (B := T7.setTop (mkF m 28 (LS_RJs r0 q1) [(.long wm), (.long q1), (.long v0)])) (fun t k => st7 _ k) ?_
  refine own_go (B := T7.setTop (mkF m 30 (LS_RJs r0 q1) [(.int (lcmpW v0 (q1 - wm)))])) (fun t k => ?_) ?_
  · show Steps p.tables e below (T7.setTop (mkF m 28 (LS_RJs r0 q1) [(.long wm), (.long q1), (.long v0)])) _
    refine XS.lsub X7.here hx rfl (hb hby d11_28) rfl ?_
    show Steps p.tables e below (T7.setTop (mkF m 29 (LS_RJs r0 q1) [(.long (q1 - wm)), (.long v0)])) _
    refine XS.lcmp X7.here hx rfl (hb hby d11_29) rfl ?_
    exact k
  by_cases hc30_8 : (q1 - wm) < v0
  · refine own_go (B := T7.setTop (mkF m 38 (LS_RJs r0 q1) [(.int (0 : Int32))])) (fun t k => ?_) ?_
    · show Steps p.tables e below (T7.setTop (mkF m 30 (LS_RJs r0 q1) [(.int (lcmpW v0 (q1 - wm)))])) _
      refine XS.ifYes X7.here hx rfl (pc0 := 30) (pc' := 37) rfl (hb hby d11_30) rfl ((if0 _ _).trans (tlt ((lw_gt v0 (q1 - wm)).mpr hc30_8)).2.2.1) (by decide) (by decide) ?_
      show Steps p.tables e below (T7.setTop (mkF m 37 (LS_RJs r0 q1) [])) _
      refine XS.iconst X7.here hx rfl (hb hby d11_37) ?_
      exact k
    obtain ⟨fs, hr, hrun, hended, hW, hsame⟩ := X7.leave (v := some (.int (0 : Int32))) (fun h => by rw [Bd.returns] at h; cases h) (BodyLoose.notSynchronized Bd)
    refine ⟨_, _, ?_, hrun, hended, _, _, rfl, ?_, ⟨_, rfl⟩, hW, hsame.mono (by decide) (by decide)⟩
    · show Steps p.tables e below (T7.setTop (mkF m 38 (LS_RJs r0 q1) [(.int (0 : Int32))])) _
      exact retN X7 hx (t := .boolean) Bd.returns (by simp) (hb hby d11_38) hr
    · show Qidl10_0_1 Z r0 q1 da ea ka wm x0 v0 h0 n0 _ T7.heap _
      rw [e7]
      exact ⟨by rw [if_pos hc30_8], N6, rfl⟩
  · refine own_go (B := T7.setTop (mkF m 38 (LS_RJs r0 q1) [(.int (1 : Int32))])) (fun t k => ?_) ?_
    · show Steps p.tables e below (T7.setTop (mkF m 30 (LS_RJs r0 q1) [(.int (lcmpW v0 (q1 - wm)))])) _
      refine XS.ifNo X7.here hx rfl (hb hby d11_30) rfl ((if0 _ _).trans (flt (fun q => hc30_8 ((lw_gt v0 (q1 - wm)).mp q))).2.2.1) ?_
      show Steps p.tables e below (T7.setTop (mkF m 33 (LS_RJs r0 q1) [])) _
      refine XS.iconst X7.here hx rfl (hb hby d11_33) ?_
      show Steps p.tables e below (T7.setTop (mkF m 34 (LS_RJs r0 q1) [(.int (1 : Int32))])) _
      refine XS.goto X7.here hx rfl (pc0 := 34) (pc' := 38) rfl (hb hby d11_34) (by decide) (by decide) ?_
      exact k
    obtain ⟨fs, hr, hrun, hended, hW, hsame⟩ := X7.leave (v := some (.int (1 : Int32))) (fun h => by rw [Bd.returns] at h; cases h) (BodyLoose.notSynchronized Bd)
    refine ⟨_, _, ?_, hrun, hended, _, _, rfl, ?_, ⟨_, rfl⟩, hW, hsame.mono (by decide) (by decide)⟩
    · show Steps p.tables e below (T7.setTop (mkF m 38 (LS_RJs r0 q1) [(.int (1 : Int32))])) _
      exact retN X7 hx (t := .boolean) Bd.returns (by simp) (hb hby d11_38) hr
    · show Qidl10_0_1 Z r0 q1 da ea ka wm x0 v0 h0 n0 _ T7.heap _
      rw [e7]
      exact ⟨by rw [if_neg hc30_8], N6, rfl⟩
theorem ef_idl01_1_2 (m : MethodId) (r0 : Addr) (q1 : Int64) : entryFrame m #[(.ref r0), (.long q1)] 3 = mkF m 0 #[.val (.ref r0), .val (.long q1), .second] [] := by first | (simp [entryFrame, mkF, argsToLocals, Value.category]; done) | rfl
def Qidl01_1_2 (Z : State) (r0 : Addr) (q1 : Int64) (da ea : Addr) (ka : ClassId) (wm : Int64) (x1 : Addr) (v1 : Int64) (h0 : Heap) (n0 : Nat) (v : Option Value) (h : Heap) (L : List Loc) : Prop := v = some (.int (if (q1 - wm) < v1 then (0 : Int32) else (1 : Int32))) ∧ Fr n0 L ∧ h = h0
set_option maxRecDepth 65536 in
set_option maxHeartbeats 40000000 in
theorem rmidl01_1_2 (l : Launch) (Z : State) (a0 : Array Value) (hw : ∀ d ∈ tables_1, d.before a0 Z = true) (ws : List Jvm.Cond) (r0 : Addr) (q1 : Int64) (da ea : Addr) (ka : ClassId) (wm : Int64) (x1 : Addr) (v1 : Int64) (h0 : Heap) (n0 : Nat) (Z0 : n0 ≤ h0.size) (E0 : Exa Z h0 r0 "com/example/blend2/blend2/SlidingWindowLog") (G0 : Fld Z h0 r0 "com/example/blend2/blend2/SlidingWindowLog" "admitted" "Ljava/util/ArrayDeque;" (.ref da)) (G2 : Fld Z h0 r0 "com/example/blend2/blend2/SlidingWindowLog" "windowMillis" "J" (.long wm)) (Ed : Exa Z h0 da "java/util/ArrayDeque") (P0 : Fld Z h0 da "java/util/ArrayDeque" "elements" "[Ljava/lang/Object;" (.ref ea)) (P1 : Fld Z h0 da "java/util/ArrayDeque" "head" "I" (.int (1 : Int32))) (P2 : Fld Z h0 da "java/util/ArrayDeque" "tail" "I" (.int (2 : Int32))) (P3 : Arv Z h0 ea ka (.object "java/lang/Object") (17 : Int32) [.null, (.ref x1), .null, .null, .null, .null, .null, .null, .null, .null, .null, .null, .null, .null, .null, .null, .null] .null) (Ov : Ovr Z ka "java/lang/Object") (g_da : n0 ≤ da) (g_ea : n0 ≤ ea) (Ex1 : Exa Z h0 x1 "java/lang/Long") (Fx1 : Fld Z h0 x1 "java/lang/Long" "value" "J" (.long v1)) :
    MetFree l (⟨"com/example/blend2/blend2/SlidingWindowLog", "isIdleAt", "(J)Z"⟩ : MethodName) (head1 (Jvm.Cond.code (⟨"com/example/blend2/blend2/SlidingWindowLog", "isIdleAt", "(J)Z"⟩ : MethodName) prog_12_method_3_code 3 (some .boolean) :: ws) ({ frames := 2, cells := 0, slots := 0, locals := 50 } : Room)) (fun a U => a = #[(.ref r0), (.long q1)] ∧ Z.Warmed39 U.vm ∧ U.heap = h0) (fun _ _ _ _ _ => True) (fun _ U o U' => ∃ v L, o = .returned v ∧ Qidl01_1_2 Z r0 q1 da ea ka wm x1 v1 h0 n0 v U'.heap L ∧ FrameEnd U o U' L ({ frames := 2, cells := 0, slots := 0, locals := 50 } : Room).cells ({ frames := 2, cells := 0, slots := 0, locals := 50 } : Room).slots) := by
  refine MetFree.of_bodySF (plainFor_of_name pn_11) hisR ?_
  intro p e s m args below meth c s₁ Bd hml0 hP hK
  obtain ⟨rfl, hZ, hh⟩ := hP
  have hx := Bd.exec
  have hby := Bd.bytes
  have hml : c.maxLocals = 3 := hml0
  have hown : s.vm.findClass "com/example/blend2/blend2/SlidingWindowLog" = some m.cls := findClass_of_methodNamed Bd.named
  have hnm := (name_of_methodNamed Bd.named Bd.method).1
  have X0 : Stand p l e ({ frames := 2, cells := 0, slots := 0, locals := 50 } : Room) s m #[(.ref r0), (.long q1)] below meth c s₁ [] 0 0 := Stand.of_body Bd
  have e0 : s₁.heap = h0 := by rw [← hh, Bd.state]; rfl
  have N0 := Fr.nil n0
  refine own_go (B := s₁.setTop (mkF m 0 (LS_RJs r0 q1) [])) (fun t k => castTop (ef_idl01_1_2 m r0 q1) k) ?_
  refine own_go (B := s₁.setTop (mkF m 1 (LS_RJs r0 q1) [(.ref r0)])) (fun t k => ?_) ?_
  · show Steps p.tables e below (s₁.setTop (mkF m 0 (LS_RJs r0 q1) [])) _
    refine XS.aloadN X0.here hx rfl (hb hby d11_0) rfl rfl ?_
    exact k
  obtain ⟨T1, X1, e1, st1⟩ := getF X0 hx hZ hown (host := "") (Or.inl (hw _ (List.mem_of_getElem? (i := 82) rfl))) Via.refl e0 G0 (g := (mkF m 1 (LS_RJs r0 q1) [(.ref r0)])) rfl rfl (hb hby d11_1)
  refine own_go (B := T1.setTop (mkF m 4 (LS_RJs r0 q1) [(.ref da)])) (fun t k => st1 _ k) ?_
  obtain ⟨cq2, kq2, q2a, q2b, q2c⟩ := isOf hZ e1 Ed
  obtain ⟨_, _, ⟨T2, L2, k2, n2⟩, -, X2, ⟨Lc2, hQ2, l2, y2, z2⟩, st2⟩ := X1.virtualBack hx (y := (⟨"java/util/ArrayDeque", "isEmpty", "()Z"⟩ : MethodName)) (z := (⟨"java/util/ArrayDeque", "isEmpty", "()Z"⟩ : MethodName)) hown (mvT hZ (hw _ (List.mem_of_getElem? (i := 99) rfl))) (mvT hZ (hw _ (List.mem_of_getElem? (i := 100) rfl))) (notFace_of_selects (args := #[]) (mvT hZ (hw _ (List.mem_of_getElem? (i := 102) rfl)))) (mvT hZ (hw _ (List.mem_of_getElem? (i := 102) rfl))) (mvT hZ (hw _ (List.mem_of_getElem? (i := 101) rfl))) (by decide) (backOf (W := 0) (rmemp l Z a0 hw [] da (1 : Int32) (2 : Int32) h0 n0 Z0 P1 P2) hZ (hw _ (List.mem_of_getElem? (i := 103) rfl)) (hw _ (List.mem_of_getElem? (i := 67) rfl)) (by decide) (by decide)) q2a q2c (g := (mkF m 4 (LS_RJs r0 q1) [(.ref da)])) rfl (by rw [hml]; rfl) (Steps.refl _) (argsL := []) (rest := []) (lenOf pd___Z rfl) rfl (by show 2 * 0 + _ ≤ _; exact Nat.le_of_eq rfl) (hb hby d11_4) (fun _ _ => ⟨rfl, e1, (by decide : 0 + 0 ≤ _), (by decide : 0 + 0 ≤ _)⟩)
  dsimp only [Pt.U, Pt.locs, Pt.cells, Pt.slots] at X2 l2 y2 z2 st2 hQ2
  subst l2 y2 z2
  obtain ⟨rfl, N2q, e2⟩ := hQ2
  have N2 := Fr.app N0 N2q
  refine own_go (B := T2.setTop (mkF m 7 (LS_RJs r0 q1) [(.int (if (1 : Int32) = (2 : Int32) then (1 : Int32) else (0 : Int32)))])) (fun t k => st2.trans k) ?_
  rw [show (if (1 : Int32) = (2 : Int32) then (1 : Int32) else (0 : Int32)) = (0 : Int32) from by decide]
  refine own_go (B := T2.setTop (mkF m 11 (LS_RJs r0 q1) [(.ref r0)])) (fun t k => ?_) ?_
  · show Steps p.tables e below (T2.setTop (mkF m 7 (LS_RJs r0 q1) [(.int (0 : Int32))])) _
    refine XS.ifNo X2.here hx rfl (hb hby d11_7) rfl ((if0 _ _).trans (teq (by decide : (0 : Int32) = (0 : Int32))).2) ?_
    show Steps p.tables e below (T2.setTop (mkF m 10 (LS_RJs r0 q1) [])) _
    refine XS.aloadN X2.here hx rfl (hb hby d11_10) rfl rfl ?_
    exact k
  obtain ⟨T3, X3, e3, st3⟩ := getF X2 hx hZ hown (host := "") (Or.inl (hw _ (List.mem_of_getElem? (i := 82) rfl))) Via.refl e2 G0 (g := (mkF m 11 (LS_RJs r0 q1) [(.ref r0)])) rfl rfl (hb hby d11_11)
  refine own_go (B := T3.setTop (mkF m 14 (LS_RJs r0 q1) [(.ref da)])) (fun t k => st3 _ k) ?_
  obtain ⟨cq4, kq4, q4a, q4b, q4c⟩ := isOf hZ e3 Ed
  obtain ⟨_, _, ⟨T4, L4, k4, n4⟩, -, X4, ⟨Lc4, hQ4, l4, y4, z4⟩, st4⟩ := X3.virtualBack hx (y := (⟨"java/util/ArrayDeque", "peekLast", "()Ljava/lang/Object;"⟩ : MethodName)) (z := (⟨"java/util/ArrayDeque", "peekLast", "()Ljava/lang/Object;"⟩ : MethodName)) hown (mvT hZ (hw _ (List.mem_of_getElem? (i := 233) rfl))) (mvT hZ (hw _ (List.mem_of_getElem? (i := 234) rfl))) (notFace_of_selects (args := #[]) (mvT hZ (hw _ (List.mem_of_getElem? (i := 236) rfl)))) (mvT hZ (hw _ (List.mem_of_getElem? (i := 236) rfl))) (mvT hZ (hw _ (List.mem_of_getElem? (i := 235) rfl))) (by decide) (backOf (W := 0) (rmpeekLast01_1_2 l Z a0 hw [] da ea ka x1 h0 n0 Z0 Ed P0 P1 P2 P3 Ov g_da g_ea) hZ (hw _ (List.mem_of_getElem? (i := 237) rfl)) (hw _ (List.mem_of_getElem? (i := 67) rfl)) (by decide) (by decide)) q4a q4c (g := (mkF m 14 (LS_RJs r0 q1) [(.ref da)])) rfl (by rw [hml]; rfl) (Steps.refl _) (argsL := []) (rest := []) (lenOf pd___Ljava_lang_Object_ rfl) rfl (by show 2 * 0 + _ ≤ _; exact Nat.le_of_eq rfl) (hb hby d11_14) (fun _ _ => ⟨rfl, e3, (by decide : 0 + 0 ≤ _), (by decide : 0 + 0 ≤ _)⟩)
  dsimp only [Pt.U, Pt.locs, Pt.cells, Pt.slots] at X4 l4 y4 z4 st4 hQ4
  subst l4 y4 z4
  obtain ⟨rfl, N4q, e4⟩ := hQ4
  have N4 := Fr.app N2 N4q
  refine own_go (B := T4.setTop (mkF m 17 (LS_RJs r0 q1) [(.ref x1)])) (fun t k => st4.trans k) ?_
  obtain ⟨T5, X5, e5, st5⟩ := castY X4 hx hZ hown (hw _ (List.mem_of_getElem? (i := 217) rfl)) e4 (Ins.self Ex1) (g := (mkF m 17 (LS_RJs r0 q1) [(.ref x1)])) rfl rfl (hb hby d11_17)
  refine own_go (B := T5.setTop (mkF m 20 (LS_RJs r0 q1) [(.ref x1)])) (fun t k => st5 _ k) ?_
  obtain ⟨cq6, kq6, q6a, q6b, q6c⟩ := isOf hZ e5 Ex1
  obtain ⟨_, _, ⟨T6, L6, k6, n6⟩, -, X6, ⟨Lc6, hQ6, l6, y6, z6⟩, st6⟩ := X5.virtualBack hx (y := (⟨"java/lang/Long", "longValue", "()J"⟩ : MethodName)) (z := (⟨"java/lang/Long", "longValue", "()J"⟩ : MethodName)) hown (mvT hZ (hw _ (List.mem_of_getElem? (i := 218) rfl))) (mvT hZ (hw _ (List.mem_of_getElem? (i := 219) rfl))) (notFace_of_selects (args := #[]) (mvT hZ (hw _ (List.mem_of_getElem? (i := 221) rfl)))) (mvT hZ (hw _ (List.mem_of_getElem? (i := 221) rfl))) (mvT hZ (hw _ (List.mem_of_getElem? (i := 220) rfl))) (by decide) (backOf (W := 0) (rmlov l Z a0 hw [] x1 v1 h0 n0 Z0 Fx1) hZ (hw _ (List.mem_of_getElem? (i := 222) rfl)) (hw _ (List.mem_of_getElem? (i := 128) rfl)) (by decide) (by decide)) q6a q6c (g := (mkF m 20 (LS_RJs r0 q1) [(.ref x1)])) rfl (by rw [hml]; rfl) (Steps.refl _) (argsL := []) (rest := []) (lenOf pd___J rfl) rfl (by show 2 * 0 + _ ≤ _; exact Nat.le_of_eq rfl) (hb hby d11_20) (fun _ _ => ⟨rfl, e5, (by decide : 0 + 0 ≤ _), (by decide : 0 + 0 ≤ _)⟩)
  dsimp only [Pt.U, Pt.locs, Pt.cells, Pt.slots] at X6 l6 y6 z6 st6 hQ6
  subst l6 y6 z6
  obtain ⟨rfl, N6q, e6⟩ := hQ6
  have N6 := Fr.app N4 N6q
  refine own_go (B := T6.setTop (mkF m 23 (LS_RJs r0 q1) [(.long v1)])) (fun t k => st6.trans k) ?_
  refine own_go (B := T6.setTop (mkF m 25 (LS_RJs r0 q1) [(.ref r0), (.long q1), (.long v1)])) (fun t k => ?_) ?_
  · show Steps p.tables e below (T6.setTop (mkF m 23 (LS_RJs r0 q1) [(.long v1)])) _
    refine XS.lloadN X6.here hx rfl (hb hby d11_23) rfl ?_
    show Steps p.tables e below (T6.setTop (mkF m 24 (LS_RJs r0 q1) [(.long q1), (.long v1)])) _
    refine XS.aloadN X6.here hx rfl (hb hby d11_24) rfl rfl ?_
    exact k
  obtain ⟨T7, X7, e7, st7⟩ := getF X6 hx hZ hown (host := "") (Or.inl (hw _ (List.mem_of_getElem? (i := 92) rfl))) Via.refl e6 G2 (g := (mkF m 25 (LS_RJs r0 q1) [(.ref r0), (.long q1), (.long v1)])) rfl rfl (hb hby d11_25)
  refine own_go (B := T7.setTop (mkF m 28 (LS_RJs r0 q1) [(.long wm), (.long q1), (.long v1)])) (fun t k => st7 _ k) ?_
  refine own_go (B := T7.setTop (mkF m 30 (LS_RJs r0 q1) [(.int (lcmpW v1 (q1 - wm)))])) (fun t k => ?_) ?_
  · show Steps p.tables e below (T7.setTop (mkF m 28 (LS_RJs r0 q1) [(.long wm), (.long q1), (.long v1)])) _
    refine XS.lsub X7.here hx rfl (hb hby d11_28) rfl ?_
    show Steps p.tables e below (T7.setTop (mkF m 29 (LS_RJs r0 q1) [(.long (q1 - wm)), (.long v1)])) _
    refine XS.lcmp X7.here hx rfl (hb hby d11_29) rfl ?_
    exact k
  by_cases hc30_8 : (q1 - wm) < v1
  · refine own_go (B := T7.setTop (mkF m 38 (LS_RJs r0 q1) [(.int (0 : Int32))])) (fun t k => ?_) ?_
    · show Steps p.tables e below (T7.setTop (mkF m 30 (LS_RJs r0 q1) [(.int (lcmpW v1 (q1 - wm)))])) _
      refine XS.ifYes X7.here hx rfl (pc0 := 30) (pc' := 37) rfl (hb hby d11_30) rfl ((if0 _ _).trans (tlt ((lw_gt v1 (q1 - wm)).mpr hc30_8)).2.2.1) (by decide) (by decide) ?_
      show Steps p.tables e below (T7.setTop (mkF m 37 (LS_RJs r0 q1) [])) _
      refine XS.iconst X7.here hx rfl (hb hby d11_37) ?_
      exact k
    obtain ⟨fs, hr, hrun, hended, hW, hsame⟩ := X7.leave (v := some (.int (0 : Int32))) (fun h => by rw [Bd.returns] at h; cases h) (BodyLoose.notSynchronized Bd)
    refine ⟨_, _, ?_, hrun, hended, _, _, rfl, ?_, ⟨_, rfl⟩, hW, hsame.mono (by decide) (by decide)⟩
    · show Steps p.tables e below (T7.setTop (mkF m 38 (LS_RJs r0 q1) [(.int (0 : Int32))])) _
      exact retN X7 hx (t := .boolean) Bd.returns (by simp) (hb hby d11_38) hr
    · show Qidl01_1_2 Z r0 q1 da ea ka wm x1 v1 h0 n0 _ T7.heap _
      rw [e7]
      exact ⟨by rw [if_pos hc30_8], N6, rfl⟩
  · refine own_go (B := T7.setTop (mkF m 38 (LS_RJs r0 q1) [(.int (1 : Int32))])) (fun t k => ?_) ?_
    · show Steps p.tables e below (T7.setTop (mkF m 30 (LS_RJs r0 q1) [(.int (lcmpW v1 (q1 - wm)))])) _
      refine XS.ifNo X7.here hx rfl (hb hby d11_30) rfl ((if0 _ _).trans (flt (fun q => hc30_8 ((lw_gt v1 (q1 - wm)).mp q))).2.2.1) ?_
      show Steps p.tables e below (T7.setTop (mkF m 33 (LS_RJs r0 q1) [])) _
      refine XS.iconst X7.here hx rfl (hb hby d11_33) ?_
      show Steps p.tables e below (T7.setTop (mkF m 34 (LS_RJs r0 q1) [(.int (1 : Int32))])) _
      refine XS.goto X7.here hx rfl (pc0 := 34) (pc' := 38) rfl (hb hby d11_34) (by decide) (by decide) ?_
      exact k
    obtain ⟨fs, hr, hrun, hended, hW, hsame⟩ := X7.leave (v := some (.int (1 : Int32))) (fun h => by rw [Bd.returns] at h; cases h) (BodyLoose.notSynchronized Bd)
    refine ⟨_, _, ?_, hrun, hended, _, _, rfl, ?_, ⟨_, rfl⟩, hW, hsame.mono (by decide) (by decide)⟩
    · show Steps p.tables e below (T7.setTop (mkF m 38 (LS_RJs r0 q1) [(.int (1 : Int32))])) _
      exact retN X7 hx (t := .boolean) Bd.returns (by simp) (hb hby d11_38) hr
    · show Qidl01_1_2 Z r0 q1 da ea ka wm x1 v1 h0 n0 _ T7.heap _
      rw [e7]
      exact ⟨by rw [if_neg hc30_8], N6, rfl⟩
theorem ef_idl11_0_2 (m : MethodId) (r0 : Addr) (q1 : Int64) : entryFrame m #[(.ref r0), (.long q1)] 3 = mkF m 0 #[.val (.ref r0), .val (.long q1), .second] [] := by first | (simp [entryFrame, mkF, argsToLocals, Value.category]; done) | rfl
def Qidl11_0_2 (Z : State) (r0 : Addr) (q1 : Int64) (da ea : Addr) (ka : ClassId) (wm : Int64) (x0 : Addr) (v0 : Int64) (x1 : Addr) (v1 : Int64) (h0 : Heap) (n0 : Nat) (v : Option Value) (h : Heap) (L : List Loc) : Prop := v = some (.int (if (q1 - wm) < v1 then (0 : Int32) else (1 : Int32))) ∧ Fr n0 L ∧ h = h0
set_option maxRecDepth 65536 in
set_option maxHeartbeats 40000000 in
theorem rmidl11_0_2 (l : Launch) (Z : State) (a0 : Array Value) (hw : ∀ d ∈ tables_1, d.before a0 Z = true) (ws : List Jvm.Cond) (r0 : Addr) (q1 : Int64) (da ea : Addr) (ka : ClassId) (wm : Int64) (x0 : Addr) (v0 : Int64) (x1 : Addr) (v1 : Int64) (h0 : Heap) (n0 : Nat) (Z0 : n0 ≤ h0.size) (E0 : Exa Z h0 r0 "com/example/blend2/blend2/SlidingWindowLog") (G0 : Fld Z h0 r0 "com/example/blend2/blend2/SlidingWindowLog" "admitted" "Ljava/util/ArrayDeque;" (.ref da)) (G2 : Fld Z h0 r0 "com/example/blend2/blend2/SlidingWindowLog" "windowMillis" "J" (.long wm)) (Ed : Exa Z h0 da "java/util/ArrayDeque") (P0 : Fld Z h0 da "java/util/ArrayDeque" "elements" "[Ljava/lang/Object;" (.ref ea)) (P1 : Fld Z h0 da "java/util/ArrayDeque" "head" "I" (.int (0 : Int32))) (P2 : Fld Z h0 da "java/util/ArrayDeque" "tail" "I" (.int (2 : Int32))) (P3 : Arv Z h0 ea ka (.object "java/lang/Object") (17 : Int32) [(.ref x0), (.ref x1), .null, .null, .null, .null, .null, .null, .null, .null, .null, .null, .null, .null, .null, .null, .null] .null) (Ov : Ovr Z ka "java/lang/Object") (g_da : n0 ≤ da) (g_ea : n0 ≤ ea) (Ex0 : Exa Z h0 x0 "java/lang/Long") (Fx0 : Fld Z h0 x0 "java/lang/Long" "value" "J" (.long v0)) (Ex1 : Exa Z h0 x1 "java/lang/Long") (Fx1 : Fld Z h0 x1 "java/lang/Long" "value" "J" (.long v1)) :
    MetFree l (⟨"com/example/blend2/blend2/SlidingWindowLog", "isIdleAt", "(J)Z"⟩ : MethodName) (head1 (Jvm.Cond.code (⟨"com/example/blend2/blend2/SlidingWindowLog", "isIdleAt", "(J)Z"⟩ : MethodName) prog_12_method_3_code 3 (some .boolean) :: ws) ({ frames := 2, cells := 0, slots := 0, locals := 50 } : Room)) (fun a U => a = #[(.ref r0), (.long q1)] ∧ Z.Warmed39 U.vm ∧ U.heap = h0) (fun _ _ _ _ _ => True) (fun _ U o U' => ∃ v L, o = .returned v ∧ Qidl11_0_2 Z r0 q1 da ea ka wm x0 v0 x1 v1 h0 n0 v U'.heap L ∧ FrameEnd U o U' L ({ frames := 2, cells := 0, slots := 0, locals := 50 } : Room).cells ({ frames := 2, cells := 0, slots := 0, locals := 50 } : Room).slots) := by
  refine MetFree.of_bodySF (plainFor_of_name pn_11) hisR ?_
  intro p e s m args below meth c s₁ Bd hml0 hP hK
  obtain ⟨rfl, hZ, hh⟩ := hP
  have hx := Bd.exec
  have hby := Bd.bytes
  have hml : c.maxLocals = 3 := hml0
  have hown : s.vm.findClass "com/example/blend2/blend2/SlidingWindowLog" = some m.cls := findClass_of_methodNamed Bd.named
  have hnm := (name_of_methodNamed Bd.named Bd.method).1
  have X0 : Stand p l e ({ frames := 2, cells := 0, slots := 0, locals := 50 } : Room) s m #[(.ref r0), (.long q1)] below meth c s₁ [] 0 0 := Stand.of_body Bd
  have e0 : s₁.heap = h0 := by rw [← hh, Bd.state]; rfl
  have N0 := Fr.nil n0
  refine own_go (B := s₁.setTop (mkF m 0 (LS_RJs r0 q1) [])) (fun t k => castTop (ef_idl11_0_2 m r0 q1) k) ?_
  refine own_go (B := s₁.setTop (mkF m 1 (LS_RJs r0 q1) [(.ref r0)])) (fun t k => ?_) ?_
  · show Steps p.tables e below (s₁.setTop (mkF m 0 (LS_RJs r0 q1) [])) _
    refine XS.aloadN X0.here hx rfl (hb hby d11_0) rfl rfl ?_
    exact k
  obtain ⟨T1, X1, e1, st1⟩ := getF X0 hx hZ hown (host := "") (Or.inl (hw _ (List.mem_of_getElem? (i := 82) rfl))) Via.refl e0 G0 (g := (mkF m 1 (LS_RJs r0 q1) [(.ref r0)])) rfl rfl (hb hby d11_1)
  refine own_go (B := T1.setTop (mkF m 4 (LS_RJs r0 q1) [(.ref da)])) (fun t k => st1 _ k) ?_
  obtain ⟨cq2, kq2, q2a, q2b, q2c⟩ := isOf hZ e1 Ed
  obtain ⟨_, _, ⟨T2, L2, k2, n2⟩, -, X2, ⟨Lc2, hQ2, l2, y2, z2⟩, st2⟩ := X1.virtualBack hx (y := (⟨"java/util/ArrayDeque", "isEmpty", "()Z"⟩ : MethodName)) (z := (⟨"java/util/ArrayDeque", "isEmpty", "()Z"⟩ : MethodName)) hown (mvT hZ (hw _ (List.mem_of_getElem? (i := 99) rfl))) (mvT hZ (hw _ (List.mem_of_getElem? (i := 100) rfl))) (notFace_of_selects (args := #[]) (mvT hZ (hw _ (List.mem_of_getElem? (i := 102) rfl)))) (mvT hZ (hw _ (List.mem_of_getElem? (i := 102) rfl))) (mvT hZ (hw _ (List.mem_of_getElem? (i := 101) rfl))) (by decide) (backOf (W := 0) (rmemp l Z a0 hw [] da (0 : Int32) (2 : Int32) h0 n0 Z0 P1 P2) hZ (hw _ (List.mem_of_getElem? (i := 103) rfl)) (hw _ (List.mem_of_getElem? (i := 67) rfl)) (by decide) (by decide)) q2a q2c (g := (mkF m 4 (LS_RJs r0 q1) [(.ref da)])) rfl (by rw [hml]; rfl) (Steps.refl _) (argsL := []) (rest := []) (lenOf pd___Z rfl) rfl (by show 2 * 0 + _ ≤ _; exact Nat.le_of_eq rfl) (hb hby d11_4) (fun _ _ => ⟨rfl, e1, (by decide : 0 + 0 ≤ _), (by decide : 0 + 0 ≤ _)⟩)
  dsimp only [Pt.U, Pt.locs, Pt.cells, Pt.slots] at X2 l2 y2 z2 st2 hQ2
  subst l2 y2 z2
  obtain ⟨rfl, N2q, e2⟩ := hQ2
  have N2 := Fr.app N0 N2q
  refine own_go (B := T2.setTop (mkF m 7 (LS_RJs r0 q1) [(.int (if (0 : Int32) = (2 : Int32) then (1 : Int32) else (0 : Int32)))])) (fun t k => st2.trans k) ?_
  rw [show (if (0 : Int32) = (2 : Int32) then (1 : Int32) else (0 : Int32)) = (0 : Int32) from by decide]
  refine own_go (B := T2.setTop (mkF m 11 (LS_RJs r0 q1) [(.ref r0)])) (fun t k => ?_) ?_
  · show Steps p.tables e below (T2.setTop (mkF m 7 (LS_RJs r0 q1) [(.int (0 : Int32))])) _
    refine XS.ifNo X2.here hx rfl (hb hby d11_7) rfl ((if0 _ _).trans (teq (by decide : (0 : Int32) = (0 : Int32))).2) ?_
    show Steps p.tables e below (T2.setTop (mkF m 10 (LS_RJs r0 q1) [])) _
    refine XS.aloadN X2.here hx rfl (hb hby d11_10) rfl rfl ?_
    exact k
  obtain ⟨T3, X3, e3, st3⟩ := getF X2 hx hZ hown (host := "") (Or.inl (hw _ (List.mem_of_getElem? (i := 82) rfl))) Via.refl e2 G0 (g := (mkF m 11 (LS_RJs r0 q1) [(.ref r0)])) rfl rfl (hb hby d11_11)
  refine own_go (B := T3.setTop (mkF m 14 (LS_RJs r0 q1) [(.ref da)])) (fun t k => st3 _ k) ?_
  obtain ⟨cq4, kq4, q4a, q4b, q4c⟩ := isOf hZ e3 Ed
  obtain ⟨_, _, ⟨T4, L4, k4, n4⟩, -, X4, ⟨Lc4, hQ4, l4, y4, z4⟩, st4⟩ := X3.virtualBack hx (y := (⟨"java/util/ArrayDeque", "peekLast", "()Ljava/lang/Object;"⟩ : MethodName)) (z := (⟨"java/util/ArrayDeque", "peekLast", "()Ljava/lang/Object;"⟩ : MethodName)) hown (mvT hZ (hw _ (List.mem_of_getElem? (i := 233) rfl))) (mvT hZ (hw _ (List.mem_of_getElem? (i := 234) rfl))) (notFace_of_selects (args := #[]) (mvT hZ (hw _ (List.mem_of_getElem? (i := 236) rfl)))) (mvT hZ (hw _ (List.mem_of_getElem? (i := 236) rfl))) (mvT hZ (hw _ (List.mem_of_getElem? (i := 235) rfl))) (by decide) (backOf (W := 0) (rmpeekLast11_0_2 l Z a0 hw [] da ea ka x0 x1 h0 n0 Z0 Ed P0 P1 P2 P3 Ov g_da g_ea) hZ (hw _ (List.mem_of_getElem? (i := 237) rfl)) (hw _ (List.mem_of_getElem? (i := 67) rfl)) (by decide) (by decide)) q4a q4c (g := (mkF m 14 (LS_RJs r0 q1) [(.ref da)])) rfl (by rw [hml]; rfl) (Steps.refl _) (argsL := []) (rest := []) (lenOf pd___Ljava_lang_Object_ rfl) rfl (by show 2 * 0 + _ ≤ _; exact Nat.le_of_eq rfl) (hb hby d11_14) (fun _ _ => ⟨rfl, e3, (by decide : 0 + 0 ≤ _), (by decide : 0 + 0 ≤ _)⟩)
  dsimp only [Pt.U, Pt.locs, Pt.cells, Pt.slots] at X4 l4 y4 z4 st4 hQ4
  subst l4 y4 z4
  obtain ⟨rfl, N4q, e4⟩ := hQ4
  have N4 := Fr.app N2 N4q
  refine own_go (B := T4.setTop (mkF m 17 (LS_RJs r0 q1) [(.ref x1)])) (fun t k => st4.trans k) ?_
  obtain ⟨T5, X5, e5, st5⟩ := castY X4 hx hZ hown (hw _ (List.mem_of_getElem? (i := 217) rfl)) e4 (Ins.self Ex1) (g := (mkF m 17 (LS_RJs r0 q1) [(.ref x1)])) rfl rfl (hb hby d11_17)
  refine own_go (B := T5.setTop (mkF m 20 (LS_RJs r0 q1) [(.ref x1)])) (fun t k => st5 _ k) ?_
  obtain ⟨cq6, kq6, q6a, q6b, q6c⟩ := isOf hZ e5 Ex1
  obtain ⟨_, _, ⟨T6, L6, k6, n6⟩, -, X6, ⟨Lc6, hQ6, l6, y6, z6⟩, st6⟩ := X5.virtualBack hx (y := (⟨"java/lang/Long", "longValue", "()J"⟩ : MethodName)) (z := (⟨"java/lang/Long", "longValue", "()J"⟩ : MethodName)) hown (mvT hZ (hw _ (List.mem_of_getElem? (i := 218) rfl))) (mvT hZ (hw _ (List.mem_of_getElem? (i := 219) rfl))) (notFace_of_selects (args := #[]) (mvT hZ (hw _ (List.mem_of_getElem? (i := 221) rfl)))) (mvT hZ (hw _ (List.mem_of_getElem? (i := 221) rfl))) (mvT hZ (hw _ (List.mem_of_getElem? (i := 220) rfl))) (by decide) (backOf (W := 0) (rmlov l Z a0 hw [] x1 v1 h0 n0 Z0 Fx1) hZ (hw _ (List.mem_of_getElem? (i := 222) rfl)) (hw _ (List.mem_of_getElem? (i := 128) rfl)) (by decide) (by decide)) q6a q6c (g := (mkF m 20 (LS_RJs r0 q1) [(.ref x1)])) rfl (by rw [hml]; rfl) (Steps.refl _) (argsL := []) (rest := []) (lenOf pd___J rfl) rfl (by show 2 * 0 + _ ≤ _; exact Nat.le_of_eq rfl) (hb hby d11_20) (fun _ _ => ⟨rfl, e5, (by decide : 0 + 0 ≤ _), (by decide : 0 + 0 ≤ _)⟩)
  dsimp only [Pt.U, Pt.locs, Pt.cells, Pt.slots] at X6 l6 y6 z6 st6 hQ6
  subst l6 y6 z6
  obtain ⟨rfl, N6q, e6⟩ := hQ6
  have N6 := Fr.app N4 N6q
  refine own_go (B := T6.setTop (mkF m 23 (LS_RJs r0 q1) [(.long v1)])) (fun t k => st6.trans k) ?_
  refine own_go (B := T6.setTop (mkF m 25 (LS_RJs r0 q1) [(.ref r0), (.long q1), (.long v1)])) (fun t k => ?_) ?_
  · show Steps p.tables e below (T6.setTop (mkF m 23 (LS_RJs r0 q1) [(.long v1)])) _
    refine XS.lloadN X6.here hx rfl (hb hby d11_23) rfl ?_
    show Steps p.tables e below (T6.setTop (mkF m 24 (LS_RJs r0 q1) [(.long q1), (.long v1)])) _
    refine XS.aloadN X6.here hx rfl (hb hby d11_24) rfl rfl ?_
    exact k
  obtain ⟨T7, X7, e7, st7⟩ := getF X6 hx hZ hown (host := "") (Or.inl (hw _ (List.mem_of_getElem? (i := 92) rfl))) Via.refl e6 G2 (g := (mkF m 25 (LS_RJs r0 q1) [(.ref r0), (.long q1), (.long v1)])) rfl rfl (hb hby d11_25)
  refine own_go (B := T7.setTop (mkF m 28 (LS_RJs r0 q1) [(.long wm), (.long q1), (.long v1)])) (fun t k => st7 _ k) ?_
  refine own_go (B := T7.setTop (mkF m 30 (LS_RJs r0 q1) [(.int (lcmpW v1 (q1 - wm)))])) (fun t k => ?_) ?_
  · show Steps p.tables e below (T7.setTop (mkF m 28 (LS_RJs r0 q1) [(.long wm), (.long q1), (.long v1)])) _
    refine XS.lsub X7.here hx rfl (hb hby d11_28) rfl ?_
    show Steps p.tables e below (T7.setTop (mkF m 29 (LS_RJs r0 q1) [(.long (q1 - wm)), (.long v1)])) _
    refine XS.lcmp X7.here hx rfl (hb hby d11_29) rfl ?_
    exact k
  by_cases hc30_8 : (q1 - wm) < v1
  · refine own_go (B := T7.setTop (mkF m 38 (LS_RJs r0 q1) [(.int (0 : Int32))])) (fun t k => ?_) ?_
    · show Steps p.tables e below (T7.setTop (mkF m 30 (LS_RJs r0 q1) [(.int (lcmpW v1 (q1 - wm)))])) _
      refine XS.ifYes X7.here hx rfl (pc0 := 30) (pc' := 37) rfl (hb hby d11_30) rfl ((if0 _ _).trans (tlt ((lw_gt v1 (q1 - wm)).mpr hc30_8)).2.2.1) (by decide) (by decide) ?_
      show Steps p.tables e below (T7.setTop (mkF m 37 (LS_RJs r0 q1) [])) _
      refine XS.iconst X7.here hx rfl (hb hby d11_37) ?_
      exact k
    obtain ⟨fs, hr, hrun, hended, hW, hsame⟩ := X7.leave (v := some (.int (0 : Int32))) (fun h => by rw [Bd.returns] at h; cases h) (BodyLoose.notSynchronized Bd)
    refine ⟨_, _, ?_, hrun, hended, _, _, rfl, ?_, ⟨_, rfl⟩, hW, hsame.mono (by decide) (by decide)⟩
    · show Steps p.tables e below (T7.setTop (mkF m 38 (LS_RJs r0 q1) [(.int (0 : Int32))])) _
      exact retN X7 hx (t := .boolean) Bd.returns (by simp) (hb hby d11_38) hr
    · show Qidl11_0_2 Z r0 q1 da ea ka wm x0 v0 x1 v1 h0 n0 _ T7.heap _
      rw [e7]
      exact ⟨by rw [if_pos hc30_8], N6, rfl⟩
  · refine own_go (B := T7.setTop (mkF m 38 (LS_RJs r0 q1) [(.int (1 : Int32))])) (fun t k => ?_) ?_
    · show Steps p.tables e below (T7.setTop (mkF m 30 (LS_RJs r0 q1) [(.int (lcmpW v1 (q1 - wm)))])) _
      refine XS.ifNo X7.here hx rfl (hb hby d11_30) rfl ((if0 _ _).trans (flt (fun q => hc30_8 ((lw_gt v1 (q1 - wm)).mp q))).2.2.1) ?_
      show Steps p.tables e below (T7.setTop (mkF m 33 (LS_RJs r0 q1) [])) _
      refine XS.iconst X7.here hx rfl (hb hby d11_33) ?_
      show Steps p.tables e below (T7.setTop (mkF m 34 (LS_RJs r0 q1) [(.int (1 : Int32))])) _
      refine XS.goto X7.here hx rfl (pc0 := 34) (pc' := 38) rfl (hb hby d11_34) (by decide) (by decide) ?_
      exact k
    obtain ⟨fs, hr, hrun, hended, hW, hsame⟩ := X7.leave (v := some (.int (1 : Int32))) (fun h => by rw [Bd.returns] at h; cases h) (BodyLoose.notSynchronized Bd)
    refine ⟨_, _, ?_, hrun, hended, _, _, rfl, ?_, ⟨_, rfl⟩, hW, hsame.mono (by decide) (by decide)⟩
    · show Steps p.tables e below (T7.setTop (mkF m 38 (LS_RJs r0 q1) [(.int (1 : Int32))])) _
      exact retN X7 hx (t := .boolean) Bd.returns (by simp) (hb hby d11_38) hr
    · show Qidl11_0_2 Z r0 q1 da ea ka wm x0 v0 x1 v1 h0 n0 _ T7.heap _
      rw [e7]
      exact ⟨by rw [if_neg hc30_8], N6, rfl⟩
theorem own_refl {t1 t2 w : Int64} (hw : 1000 ≤ w.toInt ∧ w.toInt ≤ 2147483647000) (h1 : -4611686018427387904 ≤ t1.toInt) (h12 : t1.toInt ≤ t2.toInt) (h2 : t2.toInt ≤ 4611686018427387904) (hl : (t2 - w) < t1) : 0 < ((t1 + w) - t2).toInt ∧ ((t1 + w) - t2).toInt ≤ 2147483647000 := by
  rw [Int64.lt_iff_toInt_lt, Jvm.Kit.i64_sub (by omega) (by omega)] at hl
  have e := Jvm.Kit.i64_add (x := t1) (y := w) (by omega) (by omega)
  rw [Jvm.Kit.i64_sub (by omega) (by omega), e]
  omega
theorem own_cp {cp : Int32} (h : 1 ≤ cp.toInt ∧ cp.toInt ≤ 2) : (0 : Int32) < cp := by
  rw [Int32.lt_iff_toInt_lt]
  have : (0 : Int32).toInt = 0 := rfl
  omega
theorem own_rem1 {cp : Int32} (h : 1 ≤ cp.toInt ∧ cp.toInt ≤ 2) : ¬ ((cp - (1 : Int32)) < (0 : Int32)) := by
  have e : (1 : Int32).toInt = 1 := rfl
  have h0 : (0 : Int32).toInt = 0 := rfl
  rw [Int32.lt_iff_toInt_lt, Jvm.Kit.i32_sub (by omega) (by omega), e, h0]
  omega
theorem own_rem2 {cp : Int32} (hl : (1 : Int32) < cp) (h : 1 ≤ cp.toInt ∧ cp.toInt ≤ 2) : ¬ ((cp - (2 : Int32)) < (0 : Int32)) := by
  have e1 : (1 : Int32).toInt = 1 := rfl
  rw [Int32.lt_iff_toInt_lt, e1] at hl
  have e : (2 : Int32).toInt = 2 := rfl
  have h0 : (0 : Int32).toInt = 0 := rfl
  rw [Int32.lt_iff_toInt_lt, Jvm.Kit.i32_sub (by omega) (by omega), e, h0]
  omega
theorem ef_decA (m : MethodId) (r0 : Addr) (q1 : Int64) : entryFrame m #[(.ref r0), (.long q1)] 8 = mkF m 0 #[.val (.ref r0), .val (.long q1), .second, .unset, .unset, .unset, .unset, .unset] [] := by first | (simp [entryFrame, mkF, argsToLocals, Value.category]; done) | rfl
theorem pn_13 : plainName "com/example/blend2/blend2/SlidingWindowLog" = true := by first | (simp [plainName, overriddenIn]; done) | decide +kernel
abbrev LS_RJsuuuuu (a0 : Addr) (a1 : Int64) : Array Slot := #[.val (.ref a0), .val (.long a1), .second, .unset, .unset, .unset, .unset, .unset]
theorem d13_0 : decode prog_12_method_2_code 0 = .ok (.lload_n 1, 1) := by decide +kernel
theorem d13_1 : decode prog_12_method_2_code 1 = .ok (.aload_n 0, 1) := by decide +kernel
theorem d13_2 : decode prog_12_method_2_code 2 = .ok (.getfield 28, 3) := by decide +kernel
theorem d13_5 : decode prog_12_method_2_code 5 = .ok (.lsub, 1) := by decide +kernel
theorem d13_6 : decode prog_12_method_2_code 6 = .ok (.lstore_n 3, 1) := by decide +kernel
abbrev LS_RJsJsuuu (a0 : Addr) (a1 : Int64) (a2 : Int64) : Array Slot := #[.val (.ref a0), .val (.long a1), .second, .val (.long a2), .second, .unset, .unset, .unset]
theorem d13_7 : decode prog_12_method_2_code 7 = .ok (.aload_n 0, 1) := by decide +kernel
theorem d13_8 : decode prog_12_method_2_code 8 = .ok (.getfield 10, 3) := by decide +kernel
theorem d13_11 : decode prog_12_method_2_code 11 = .ok (.invokevirtual 32, 3) := by decide +kernel
theorem d13_14 : decode prog_12_method_2_code 14 = .ok (.ifCond .ne 32, 3) := by decide +kernel
theorem d13_46 : decode prog_12_method_2_code 46 = .ok (.aload_n 0, 1) := by decide +kernel
theorem d13_47 : decode prog_12_method_2_code 47 = .ok (.getfield 10, 3) := by decide +kernel
theorem d13_50 : decode prog_12_method_2_code 50 = .ok (.invokevirtual 49, 3) := by decide +kernel
theorem d13_53 : decode prog_12_method_2_code 53 = .ok (.aload_n 0, 1) := by decide +kernel
theorem d13_54 : decode prog_12_method_2_code 54 = .ok (.getfield 16, 3) := by decide +kernel
theorem d13_57 : decode prog_12_method_2_code 57 = .ok (.invokevirtual 52, 3) := by decide +kernel
theorem d13_60 : decode prog_12_method_2_code 60 = .ok (.if_icmp .ge 41, 3) := by decide +kernel
theorem d13_63 : decode prog_12_method_2_code 63 = .ok (.aload_n 0, 1) := by decide +kernel
theorem d13_64 : decode prog_12_method_2_code 64 = .ok (.getfield 10, 3) := by decide +kernel
theorem d13_67 : decode prog_12_method_2_code 67 = .ok (.lload_n 1, 1) := by decide +kernel
theorem d13_68 : decode prog_12_method_2_code 68 = .ok (.invokestatic 55, 3) := by decide +kernel
theorem pd__J_Ljava_lang_Long_ : parseMethodDescriptor "(J)Ljava/lang/Long;" = some ⟨[.long], some (.object "java/lang/Long")⟩ := by decide +kernel
theorem d13_71 : decode prog_12_method_2_code 71 = .ok (.invokevirtual 59, 3) := by decide +kernel
theorem d13_74 : decode prog_12_method_2_code 74 = .ok (.aload_n 0, 1) := by decide +kernel
theorem d13_75 : decode prog_12_method_2_code 75 = .ok (.getfield 16, 3) := by decide +kernel
theorem d13_78 : decode prog_12_method_2_code 78 = .ok (.aload_n 0, 1) := by decide +kernel
theorem d13_79 : decode prog_12_method_2_code 79 = .ok (.getfield 16, 3) := by decide +kernel
theorem d13_82 : decode prog_12_method_2_code 82 = .ok (.invokevirtual 52, 3) := by decide +kernel
theorem d13_85 : decode prog_12_method_2_code 85 = .ok (.aload_n 0, 1) := by decide +kernel
theorem d13_86 : decode prog_12_method_2_code 86 = .ok (.getfield 10, 3) := by decide +kernel
theorem d13_89 : decode prog_12_method_2_code 89 = .ok (.invokevirtual 49, 3) := by decide +kernel
theorem d13_92 : decode prog_12_method_2_code 92 = .ok (.isub, 1) := by decide +kernel
theorem d13_93 : decode prog_12_method_2_code 93 = .ok (.invokestatic 63, 3) := by decide +kernel
theorem pd__Lcom_example_blend2_blend2_Rule_I_Lcom_example_blend2_blend2_Decision_ : parseMethodDescriptor "(Lcom/example/blend2/blend2/Rule;I)Lcom/example/blend2/blend2/Decision;" = some ⟨[(.object "com/example/blend2/blend2/Rule"), .int], some (.object "com/example/blend2/blend2/Decision")⟩ := by decide +kernel
theorem d13_96 : decode prog_12_method_2_code 96 = .ok (.astore 5, 2) := by decide +kernel
abbrev LS_RJsJsRuu (a0 : Addr) (a1 : Int64) (a2 : Int64) (a3 : Addr) : Array Slot := #[.val (.ref a0), .val (.long a1), .second, .val (.long a2), .second, .val (.ref a3), .unset, .unset]
theorem d13_98 : decode prog_12_method_2_code 98 = .ok (.goto 39, 3) := by decide +kernel
theorem d13_137 : decode prog_12_method_2_code 137 = .ok (.aload 5, 2) := by decide +kernel
theorem d13_139 : decode prog_12_method_2_code 139 = .ok (.areturn, 1) := by decide +kernel
def QdecA (Z : State) (r0 : Addr) (q1 : Int64) (da ea : Addr) (ka : ClassId) (wm : Int64) (rr wz wc : Addr) (cc : Cell) (cp : Int32) (h0 : Heap) (n0 : Nat) (v : Option Value) (h : Heap) (L : List Loc) : Prop := ∃ r : Addr, v = some (.ref r) ∧ Fr n0 L ∧ Keep h0 h [da, ea] ∧ (∃ x2 : Addr, Fld Z h da "java/util/ArrayDeque" "elements" "[Ljava/lang/Object;" (.ref ea) ∧ Fld Z h da "java/util/ArrayDeque" "head" "I" (.int (0 : Int32)) ∧ Fld Z h da "java/util/ArrayDeque" "tail" "I" (.int (1 : Int32)) ∧ Arv Z h ea ka (.object "java/lang/Object") (17 : Int32) [(.ref x2), .null, .null, .null, .null, .null, .null, .null, .null, .null, .null, .null, .null, .null, .null, .null, .null] .null ∧ Exa Z h x2 "java/lang/Long" ∧ Fld Z h x2 "java/lang/Long" "value" "J" (.long q1))
set_option maxRecDepth 65536 in
set_option maxHeartbeats 40000000 in
theorem rmdecA (l : Launch) (Z : State) (a0 : Array Value) (hw : ∀ d ∈ tables_1, d.before a0 Z = true) (ws : List Jvm.Cond) (r0 : Addr) (q1 : Int64) (da ea : Addr) (ka : ClassId) (wm : Int64) (rr wz wc : Addr) (cc : Cell) (cp : Int32) (h0 : Heap) (n0 : Nat) (Z0 : n0 ≤ h0.size) (S_ZERO : Sta Z h0 "java/time/Duration" "ZERO" "Ljava/time/Duration;" (.ref wz)) (Ez : Exa Z h0 wz "java/time/Duration") (Fz : Fld Z h0 wz "java/time/Duration" "seconds" "J" (.long (0 : Int64))) (OL : Old Z n0 h0) (BX : Bxs Z wc cc "java/lang/Long" "J" (256 : Int32) (fun j : Int32 => Value.long ((j - (128 : Int32)).toInt64))) (S_cache : Sta Z h0 "java/lang/Long$LongCache" "cache" "[Ljava/lang/Long;" (.ref wc)) (Er : Exa Z h0 rr "com/example/blend2/blend2/Rule") (Fc : Fld Z h0 rr "com/example/blend2/blend2/Rule" "capacity" "I" (.int cp)) (G1 : Fld Z h0 r0 "com/example/blend2/blend2/SlidingWindowLog" "rule" "Lcom/example/blend2/blend2/Rule;" (.ref rr)) (E0 : Exa Z h0 r0 "com/example/blend2/blend2/SlidingWindowLog") (G0 : Fld Z h0 r0 "com/example/blend2/blend2/SlidingWindowLog" "admitted" "Ljava/util/ArrayDeque;" (.ref da)) (G2 : Fld Z h0 r0 "com/example/blend2/blend2/SlidingWindowLog" "windowMillis" "J" (.long wm)) (Ed : Exa Z h0 da "java/util/ArrayDeque") (P0 : Fld Z h0 da "java/util/ArrayDeque" "elements" "[Ljava/lang/Object;" (.ref ea)) (P1 : Fld Z h0 da "java/util/ArrayDeque" "head" "I" (.int (0 : Int32))) (P2 : Fld Z h0 da "java/util/ArrayDeque" "tail" "I" (.int (0 : Int32))) (P3 : Arv Z h0 ea ka (.object "java/lang/Object") (17 : Int32) [.null, .null, .null, .null, .null, .null, .null, .null, .null, .null, .null, .null, .null, .null, .null, .null, .null] .null) (Ov : Ovr Z ka "java/lang/Object") (g_da : n0 ≤ da) (g_ea : n0 ≤ ea) (hw1 : 1000 ≤ wm.toInt ∧ wm.toInt ≤ 2147483647000) (hc1 : 1 ≤ cp.toInt ∧ cp.toInt ≤ 2) :
    MetFree l (⟨"com/example/blend2/blend2/SlidingWindowLog", "decide", "(J)Lcom/example/blend2/blend2/Decision;"⟩ : MethodName) (head1 (Jvm.Cond.code (⟨"com/example/blend2/blend2/SlidingWindowLog", "decide", "(J)Lcom/example/blend2/blend2/Decision;"⟩ : MethodName) prog_12_method_2_code 8 (some (.object "com/example/blend2/blend2/Decision")) :: ws) ({ frames := 5, cells := 10, slots := 98, locals := 125 } : Room)) (fun a U => a = #[(.ref r0), (.long q1)] ∧ Z.Warmed39 U.vm ∧ U.heap = h0) (fun _ _ _ _ _ => True) (fun _ U o U' => ∃ v L, o = .returned v ∧ QdecA Z r0 q1 da ea ka wm rr wz wc cc cp h0 n0 v U'.heap L ∧ ReturnedEndW U o U' L ({ frames := 5, cells := 10, slots := 98, locals := 125 } : Room).cells ({ frames := 5, cells := 10, slots := 98, locals := 125 } : Room).slots) := by
  refine MetFree.of_bodySF (plainFor_of_name pn_13) hisR ?_
  intro p e s m args below meth c s₁ Bd hml0 hP hK
  obtain ⟨rfl, hZ, hh⟩ := hP
  have hx := Bd.exec
  have hby := Bd.bytes
  have hml : c.maxLocals = 8 := hml0
  have hown : s.vm.findClass "com/example/blend2/blend2/SlidingWindowLog" = some m.cls := findClass_of_methodNamed Bd.named
  have hnm := (name_of_methodNamed Bd.named Bd.method).1
  have X0 : Stand p l e ({ frames := 5, cells := 10, slots := 98, locals := 125 } : Room) s m #[(.ref r0), (.long q1)] below meth c s₁ [] 0 0 := Stand.of_body Bd
  have e0 : s₁.heap = h0 := by rw [← hh, Bd.state]; rfl
  have N0 := Fr.nil n0
  refine own_go (B := s₁.setTop (mkF m 0 (LS_RJsuuuuu r0 q1) [])) (fun t k => castTop (ef_decA m r0 q1) k) ?_
  have hS0 : s.Since s.vm 0 := (State.WarmedH.refl s).since 0
  have hk0 : 0 ≤ Array.size h0 := Nat.zero_le _
  have K0 : Keep h0 h0 [da, ea] := Keep.refl _ _
  refine own_go (B := s₁.setTop (mkF m 2 (LS_RJsuuuuu r0 q1) [(.ref r0), (.long q1)])) (fun t k => ?_) ?_
  · refine XS.lloadN X0.here hx rfl (hb hby d13_0) rfl ?_
    refine XS.aloadN X0.here hx rfl (hb hby d13_1) rfl rfl ?_
    exact k
  obtain ⟨T1, X1, e1, st1⟩ := getF X0 hx hZ hown (host := "") (Or.inl (hw _ (List.mem_of_getElem? (i := 92) rfl))) Via.refl e0 G2 (g := (mkF m 2 (LS_RJsuuuuu r0 q1) [(.ref r0), (.long q1)])) rfl rfl (hb hby d13_2)
  refine own_go (B := T1.setTop (mkF m 5 (LS_RJsuuuuu r0 q1) [(.long wm), (.long q1)])) (fun t k => st1 _ k) ?_
  refine own_go (B := T1.setTop (mkF m 8 (LS_RJsJsuuu r0 q1 (q1 - wm)) [(.ref r0)])) (fun t k => ?_) ?_
  · refine XS.lsub X1.here hx rfl (hb hby d13_5) rfl ?_
    refine XS.lstoreN X1.here hx rfl (hb hby d13_6) rfl (l' := (LS_RJsJsuuu r0 q1 (q1 - wm))) rfl ?_
    show Steps p.tables e below (T1.setTop (mkF m 7 (LS_RJsJsuuu r0 q1 (q1 - wm)) [])) _
    refine XS.aloadN X1.here hx rfl (hb hby d13_7) rfl rfl ?_
    exact k
  obtain ⟨T2, X2, e2, st2⟩ := getF X1 hx hZ hown (host := "") (Or.inl (hw _ (List.mem_of_getElem? (i := 82) rfl))) Via.refl e1 G0 (g := (mkF m 8 (LS_RJsJsuuu r0 q1 (q1 - wm)) [(.ref r0)])) rfl rfl (hb hby d13_8)
  refine own_go (B := T2.setTop (mkF m 11 (LS_RJsJsuuu r0 q1 (q1 - wm)) [(.ref da)])) (fun t k => st2 _ k) ?_
  obtain ⟨cq3, kq3, q3a, q3b, q3c⟩ := isOf hZ e2 Ed
  obtain ⟨_, _, ⟨T3, L3, k3, n3⟩, -, X3, ⟨Lc3, hQ3, l3, y3, z3⟩, st3⟩ := X2.virtualBack hx (y := (⟨"java/util/ArrayDeque", "isEmpty", "()Z"⟩ : MethodName)) (z := (⟨"java/util/ArrayDeque", "isEmpty", "()Z"⟩ : MethodName)) hown (mvT hZ (hw _ (List.mem_of_getElem? (i := 99) rfl))) (mvT hZ (hw _ (List.mem_of_getElem? (i := 100) rfl))) (notFace_of_selects (args := #[]) (mvT hZ (hw _ (List.mem_of_getElem? (i := 102) rfl)))) (mvT hZ (hw _ (List.mem_of_getElem? (i := 102) rfl))) (mvT hZ (hw _ (List.mem_of_getElem? (i := 101) rfl))) (by decide) (backOf (W := 0) (rmemp l Z a0 hw [] da (0 : Int32) (0 : Int32) h0 n0 Z0 P1 P2) hZ (hw _ (List.mem_of_getElem? (i := 103) rfl)) (hw _ (List.mem_of_getElem? (i := 67) rfl)) (by decide) (by decide)) q3a q3c (g := (mkF m 11 (LS_RJsJsuuu r0 q1 (q1 - wm)) [(.ref da)])) rfl (by rw [hml]; rfl) (Steps.refl _) (argsL := []) (rest := []) (lenOf pd___Z rfl) rfl (by show 2 * 0 + _ ≤ _; exact Nat.le_of_eq rfl) (hb hby d13_11) (fun _ _ => ⟨rfl, e2, (by decide : 0 + 0 ≤ _), (by decide : 0 + 0 ≤ _)⟩)
  dsimp only [Pt.U, Pt.locs, Pt.cells, Pt.slots] at X3 l3 y3 z3 st3 hQ3
  subst l3 y3 z3
  obtain ⟨rfl, N3q, e3⟩ := hQ3
  have N3 := Fr.app N0 N3q
  refine own_go (B := T3.setTop (mkF m 14 (LS_RJsJsuuu r0 q1 (q1 - wm)) [(.int (if (0 : Int32) = (0 : Int32) then (1 : Int32) else (0 : Int32)))])) (fun t k => st3.trans k) ?_
  rw [show (if (0 : Int32) = (0 : Int32) then (1 : Int32) else (0 : Int32)) = (1 : Int32) from by decide]
  refine own_go (B := T3.setTop (mkF m 47 (LS_RJsJsuuu r0 q1 (q1 - wm)) [(.ref r0)])) (fun t k => ?_) ?_
  · refine XS.ifYes X3.here hx rfl (pc0 := 14) (pc' := 46) rfl (hb hby d13_14) rfl ((if0 _ _).trans (feq (by decide : ¬ ((1 : Int32) = (0 : Int32)))).2) (by decide) (by decide) ?_
    refine XS.aloadN X3.here hx rfl (hb hby d13_46) rfl rfl ?_
    exact k
  obtain ⟨T4, X4, e4, st4⟩ := getF X3 hx hZ hown (host := "") (Or.inl (hw _ (List.mem_of_getElem? (i := 82) rfl))) Via.refl e3 G0 (g := (mkF m 47 (LS_RJsJsuuu r0 q1 (q1 - wm)) [(.ref r0)])) rfl rfl (hb hby d13_47)
  refine own_go (B := T4.setTop (mkF m 50 (LS_RJsJsuuu r0 q1 (q1 - wm)) [(.ref da)])) (fun t k => st4 _ k) ?_
  obtain ⟨cq5, kq5, q5a, q5b, q5c⟩ := isOf hZ e4 Ed
  obtain ⟨_, _, ⟨T5, L5, k5, n5⟩, -, X5, ⟨Lc5, hQ5, l5, y5, z5⟩, st5⟩ := X4.virtualBack hx (y := (⟨"java/util/ArrayDeque", "size", "()I"⟩ : MethodName)) (z := (⟨"java/util/ArrayDeque", "size", "()I"⟩ : MethodName)) hown (mvT hZ (hw _ (List.mem_of_getElem? (i := 113) rfl))) (mvT hZ (hw _ (List.mem_of_getElem? (i := 114) rfl))) (notFace_of_selects (args := #[]) (mvT hZ (hw _ (List.mem_of_getElem? (i := 116) rfl)))) (mvT hZ (hw _ (List.mem_of_getElem? (i := 116) rfl))) (mvT hZ (hw _ (List.mem_of_getElem? (i := 115) rfl))) (by decide) (backOf (W := 0) (rmsiz00_0_0 l Z a0 hw [] da ea ka  h0 n0 Z0 Ed P0 P1 P2 P3 Ov g_da g_ea) hZ (hw _ (List.mem_of_getElem? (i := 117) rfl)) (hw _ (List.mem_of_getElem? (i := 67) rfl)) (by decide) (by decide)) q5a q5c (g := (mkF m 50 (LS_RJsJsuuu r0 q1 (q1 - wm)) [(.ref da)])) rfl (by rw [hml]; rfl) (Steps.refl _) (argsL := []) (rest := []) (lenOf pd___I rfl) rfl (by show 2 * 0 + _ ≤ _; exact Nat.le_of_eq rfl) (hb hby d13_50) (fun _ _ => ⟨rfl, e4, (by decide : 0 + 0 ≤ _), (by decide : 0 + 0 ≤ _)⟩)
  dsimp only [Pt.U, Pt.locs, Pt.cells, Pt.slots] at X5 l5 y5 z5 st5 hQ5
  subst l5 y5 z5
  obtain ⟨rfl, N5q, e5⟩ := hQ5
  have N5 := Fr.app N3 N5q
  refine own_go (B := T5.setTop (mkF m 53 (LS_RJsJsuuu r0 q1 (q1 - wm)) [(.int (0 : Int32))])) (fun t k => st5.trans k) ?_
  refine own_go (B := T5.setTop (mkF m 54 (LS_RJsJsuuu r0 q1 (q1 - wm)) [(.ref r0), (.int (0 : Int32))])) (fun t k => ?_) ?_
  · refine XS.aloadN X5.here hx rfl (hb hby d13_53) rfl rfl ?_
    exact k
  obtain ⟨T6, X6, e6, st6⟩ := getF X5 hx hZ hown (host := "") (Or.inl (hw _ (List.mem_of_getElem? (i := 84) rfl))) Via.refl e5 G1 (g := (mkF m 54 (LS_RJsJsuuu r0 q1 (q1 - wm)) [(.ref r0), (.int (0 : Int32))])) rfl rfl (hb hby d13_54)
  refine own_go (B := T6.setTop (mkF m 57 (LS_RJsJsuuu r0 q1 (q1 - wm)) [(.ref rr), (.int (0 : Int32))])) (fun t k => st6 _ k) ?_
  obtain ⟨cq7, kq7, q7a, q7b, q7c⟩ := isOf hZ e6 Er
  obtain ⟨_, _, ⟨T7, L7, k7, n7⟩, -, X7, ⟨Lc7, hQ7, l7, y7, z7⟩, st7⟩ := X6.virtualBack hx (y := (⟨"com/example/blend2/blend2/Rule", "capacity", "()I"⟩ : MethodName)) (z := (⟨"com/example/blend2/blend2/Rule", "capacity", "()I"⟩ : MethodName)) hown (mvT hZ (hw _ (List.mem_of_getElem? (i := 121) rfl))) (mvT hZ (hw _ (List.mem_of_getElem? (i := 122) rfl))) (notFace_of_selects (args := #[]) (mvT hZ (hw _ (List.mem_of_getElem? (i := 124) rfl)))) (mvT hZ (hw _ (List.mem_of_getElem? (i := 124) rfl))) (mvT hZ (hw _ (List.mem_of_getElem? (i := 123) rfl))) (by decide) (backOf (W := 1) (rmgcapacity l Z a0 hw [] rr cp h0 n0 Z0 Fc) hZ (hw _ (List.mem_of_getElem? (i := 125) rfl)) (hw _ (List.mem_of_getElem? (i := 13) rfl)) (by decide) (by decide)) q7a q7c (g := (mkF m 57 (LS_RJsJsuuu r0 q1 (q1 - wm)) [(.ref rr), (.int (0 : Int32))])) rfl (by rw [hml]; rfl) (Steps.refl _) (argsL := []) (rest := [(.int (0 : Int32))]) (lenOf pd___I rfl) rfl (by show 2 * 0 + _ ≤ _; exact Nat.le_of_eq rfl) (hb hby d13_57) (fun _ _ => ⟨rfl, e6, (by decide : 0 + 0 ≤ _), (by decide : 0 + 0 ≤ _)⟩)
  dsimp only [Pt.U, Pt.locs, Pt.cells, Pt.slots] at X7 l7 y7 z7 st7 hQ7
  subst l7 y7 z7
  obtain ⟨rfl, N7q, e7⟩ := hQ7
  have N7 := Fr.app N5 N7q
  refine own_go (B := T7.setTop (mkF m 60 (LS_RJsJsuuu r0 q1 (q1 - wm)) [(.int cp), (.int (0 : Int32))])) (fun t k => st7.trans k) ?_
  refine own_go (B := T7.setTop (mkF m 64 (LS_RJsJsuuu r0 q1 (q1 - wm)) [(.ref r0)])) (fun t k => ?_) ?_
  · refine XS.icmpNo X7.here hx rfl (hb hby d13_60) rfl (tlt (own_cp hc1)).2.1 ?_
    refine XS.aloadN X7.here hx rfl (hb hby d13_63) rfl rfl ?_
    exact k
  obtain ⟨T8, X8, e8, st8⟩ := getF X7 hx hZ hown (host := "") (Or.inl (hw _ (List.mem_of_getElem? (i := 82) rfl))) Via.refl e7 G0 (g := (mkF m 64 (LS_RJsJsuuu r0 q1 (q1 - wm)) [(.ref r0)])) rfl rfl (hb hby d13_64)
  refine own_go (B := T8.setTop (mkF m 67 (LS_RJsJsuuu r0 q1 (q1 - wm)) [(.ref da)])) (fun t k => st8 _ k) ?_
  refine own_go (B := T8.setTop (mkF m 68 (LS_RJsJsuuu r0 q1 (q1 - wm)) [(.long q1), (.ref da)])) (fun t k => ?_) ?_
  · refine XS.lloadN X8.here hx rfl (hb hby d13_67) rfl ?_
    exact k
  obtain ⟨_, _, ⟨T9, L9, k9, n9⟩, -, X9, ⟨Lc9, hQ9, l9, y9, z9⟩, st9⟩ := Jvm.LawKit.callS X8 hx (y := (⟨"java/lang/Long", "valueOf", "(J)Ljava/lang/Long;"⟩ : MethodName)) hown (mvT hZ (hw _ (List.mem_of_getElem? (i := 126) rfl))) (mvT hZ (hw _ (List.mem_of_getElem? (i := 127) rfl))) (mvT hZ (hw _ (List.mem_of_getElem? (i := 128) rfl))) (mvT hZ (hw _ (List.mem_of_getElem? (i := 129) rfl))) (by decide) (backOf (W := 1) (rmvof l Z a0 hw [] q1 wc cc h0 n0 Z0 OL BX S_cache) hZ (hw _ (List.mem_of_getElem? (i := 129) rfl)) (hw _ (List.mem_of_getElem? (i := 128) rfl)) (by decide) (by decide)) (g := (mkF m 68 (LS_RJsJsuuu r0 q1 (q1 - wm)) [(.long q1), (.ref da)])) rfl (by rw [hml]; rfl) (argsL := [(.long q1)]) (rest := [(.ref da)]) (lenOf pd__J_Ljava_lang_Long_ rfl) rfl (by show 2 * 0 + _ ≤ _; exact Nat.le_of_eq rfl) (hb hby d13_68) (fun _ _ => ⟨rfl, e8, (by decide : 0 + 1 ≤ _), (by decide : 0 + 1 ≤ _)⟩)
  dsimp only [Pt.U, Pt.locs, Pt.cells, Pt.slots] at X9 l9 y9 z9 st9 hQ9
  subst l9 y9 z9
  obtain ⟨o9, rfl, N9q, K9, Ef9, Fs9⟩ := hQ9
  have N9 := Fr.app N7 N9q
  refine own_go (B := T9.setTop (mkF m 71 (LS_RJsJsuuu r0 q1 (q1 - wm)) [(.ref o9), (.ref da)])) (fun t k => st9 _ k) ?_
  have Ed_v10 := Ed.keep K9
  have P0_v11 := P0.keep K9 nin0
  have P1_v12 := P1.keep K9 nin0
  have P2_v13 := P2.keep K9 nin0
  have P3_v14 := P3.keep K9 nin0
  have Z0_v15 := Nat.le_trans Z0 K9.1
  obtain ⟨cq16, kq16, q16a, q16b, q16c⟩ := isOf hZ rfl Ed_v10
  obtain ⟨_, _, ⟨T16, L16, k16, n16⟩, -, X16, ⟨Lc16, hQ16, l16, y16, z16⟩, st16⟩ := X9.virtualBack hx (y := (⟨"java/util/ArrayDeque", "addLast", "(Ljava/lang/Object;)V"⟩ : MethodName)) (z := (⟨"java/util/ArrayDeque", "addLast", "(Ljava/lang/Object;)V"⟩ : MethodName)) hown (mvT hZ (hw _ (List.mem_of_getElem? (i := 146) rfl))) (mvT hZ (hw _ (List.mem_of_getElem? (i := 147) rfl))) (notFace_of_selects (args := #[]) (mvT hZ (hw _ (List.mem_of_getElem? (i := 149) rfl)))) (mvT hZ (hw _ (List.mem_of_getElem? (i := 149) rfl))) (mvT hZ (hw _ (List.mem_of_getElem? (i := 148) rfl))) (by decide) (backOf (W := 0) (rmaddl00_0_0 l Z a0 hw [] da o9 ea ka  T9.heap n0 Z0_v15 Ed_v10 P0_v11 P1_v12 P2_v13 P3_v14 Ov g_da g_ea Ef9) hZ (hw _ (List.mem_of_getElem? (i := 150) rfl)) (hw _ (List.mem_of_getElem? (i := 67) rfl)) (by decide) (by decide)) q16a q16c (g := (mkF m 71 (LS_RJsJsuuu r0 q1 (q1 - wm)) [(.ref o9), (.ref da)])) rfl (by rw [hml]; rfl) (Steps.refl _) (argsL := [(.ref o9)]) (rest := []) (lenOf pd__Ljava_lang_Object__V rfl) rfl (by show 2 * 0 + _ ≤ _; exact Nat.le_of_eq rfl) (hb hby d13_71) (fun _ _ => ⟨rfl, rfl, (by decide : 1 + 0 ≤ _), (by decide : 1 + 0 ≤ _)⟩)
  dsimp only [Pt.U, Pt.locs, Pt.cells, Pt.slots] at X16 l16 y16 z16 st16 hQ16
  subst l16 y16 z16
  obtain ⟨rfl, N16q, K16, Fe16, Fh16, Ft16, Va16⟩ := hQ16
  have N16 := Fr.app N9 N16q
  refine own_go (B := T16.setTop (mkF m 74 (LS_RJsJsuuu r0 q1 (q1 - wm)) [])) (fun t k => st16.trans k) ?_
  have G1_v17 := G1.keep K9 nin0
  have E0_v20 := E0.keep K9
  have E0_v21 := E0_v20.keep K16
  have ne19 : r0 ≠ ea := Exa.neArv E0_v21 Va16 (hw _ (List.mem_of_getElem? (i := 9) rfl))
  have ne22 : r0 ≠ da := Exa.ne E0 Ed (by decide)
  have G1_v18 := G1_v17.keep K16 (ninS ne22 (ninS ne19 nin0))
  refine own_go (B := T16.setTop (mkF m 75 (LS_RJsJsuuu r0 q1 (q1 - wm)) [(.ref r0)])) (fun t k => ?_) ?_
  · refine XS.aloadN X16.here hx rfl (hb hby d13_74) rfl rfl ?_
    exact k
  obtain ⟨T23, X23, e23, st23⟩ := getF X16 hx hZ hown (host := "") (Or.inl (hw _ (List.mem_of_getElem? (i := 84) rfl))) Via.refl rfl G1_v18 (g := (mkF m 75 (LS_RJsJsuuu r0 q1 (q1 - wm)) [(.ref r0)])) rfl rfl (hb hby d13_75)
  refine own_go (B := T23.setTop (mkF m 78 (LS_RJsJsuuu r0 q1 (q1 - wm)) [(.ref rr)])) (fun t k => st23 _ k) ?_
  refine own_go (B := T23.setTop (mkF m 79 (LS_RJsJsuuu r0 q1 (q1 - wm)) [(.ref r0), (.ref rr)])) (fun t k => ?_) ?_
  · refine XS.aloadN X23.here hx rfl (hb hby d13_78) rfl rfl ?_
    exact k
  obtain ⟨T24, X24, e24, st24⟩ := getF X23 hx hZ hown (host := "") (Or.inl (hw _ (List.mem_of_getElem? (i := 84) rfl))) Via.refl e23 G1_v18 (g := (mkF m 79 (LS_RJsJsuuu r0 q1 (q1 - wm)) [(.ref r0), (.ref rr)])) rfl rfl (hb hby d13_79)
  refine own_go (B := T24.setTop (mkF m 82 (LS_RJsJsuuu r0 q1 (q1 - wm)) [(.ref rr), (.ref rr)])) (fun t k => st24 _ k) ?_
  have Fc_v25 := Fc.keep K9 nin0
  have Er_v28 := Er.keep K9
  have Er_v29 := Er_v28.keep K16
  have ne27 : rr ≠ ea := Exa.neArv Er_v29 Va16 (hw _ (List.mem_of_getElem? (i := 12) rfl))
  have ne30 : rr ≠ da := Exa.ne Er Ed (by decide)
  have Fc_v26 := Fc_v25.keep K16 (ninS ne30 (ninS ne27 nin0))
  have Z0_v31 := Nat.le_trans Z0_v15 K16.1
  obtain ⟨cq32, kq32, q32a, q32b, q32c⟩ := isOf hZ e24 Er_v29
  obtain ⟨_, _, ⟨T32, L32, k32, n32⟩, -, X32, ⟨Lc32, hQ32, l32, y32, z32⟩, st32⟩ := X24.virtualBack hx (y := (⟨"com/example/blend2/blend2/Rule", "capacity", "()I"⟩ : MethodName)) (z := (⟨"com/example/blend2/blend2/Rule", "capacity", "()I"⟩ : MethodName)) hown (mvT hZ (hw _ (List.mem_of_getElem? (i := 121) rfl))) (mvT hZ (hw _ (List.mem_of_getElem? (i := 122) rfl))) (notFace_of_selects (args := #[]) (mvT hZ (hw _ (List.mem_of_getElem? (i := 124) rfl)))) (mvT hZ (hw _ (List.mem_of_getElem? (i := 124) rfl))) (mvT hZ (hw _ (List.mem_of_getElem? (i := 123) rfl))) (by decide) (backOf (W := 1) (rmgcapacity l Z a0 hw [] rr cp T16.heap n0 Z0_v31 Fc_v26) hZ (hw _ (List.mem_of_getElem? (i := 125) rfl)) (hw _ (List.mem_of_getElem? (i := 13) rfl)) (by decide) (by decide)) q32a q32c (g := (mkF m 82 (LS_RJsJsuuu r0 q1 (q1 - wm)) [(.ref rr), (.ref rr)])) rfl (by rw [hml]; rfl) (Steps.refl _) (argsL := []) (rest := [(.ref rr)]) (lenOf pd___I rfl) rfl (by show 2 * 0 + _ ≤ _; exact Nat.le_of_eq rfl) (hb hby d13_82) (fun _ _ => ⟨rfl, e24, (by decide : 1 + 0 ≤ _), (by decide : 1 + 0 ≤ _)⟩)
  dsimp only [Pt.U, Pt.locs, Pt.cells, Pt.slots] at X32 l32 y32 z32 st32 hQ32
  subst l32 y32 z32
  obtain ⟨rfl, N32q, e32⟩ := hQ32
  have N32 := Fr.app N16 N32q
  refine own_go (B := T32.setTop (mkF m 85 (LS_RJsJsuuu r0 q1 (q1 - wm)) [(.int cp), (.ref rr)])) (fun t k => st32.trans k) ?_
  have G0_v33 := G0.keep K9 nin0
  have G0_v34 := G0_v33.keep K16 (ninS ne22 (ninS ne19 nin0))
  refine own_go (B := T32.setTop (mkF m 86 (LS_RJsJsuuu r0 q1 (q1 - wm)) [(.ref r0), (.int cp), (.ref rr)])) (fun t k => ?_) ?_
  · refine XS.aloadN X32.here hx rfl (hb hby d13_85) rfl rfl ?_
    exact k
  obtain ⟨T35, X35, e35, st35⟩ := getF X32 hx hZ hown (host := "") (Or.inl (hw _ (List.mem_of_getElem? (i := 82) rfl))) Via.refl e32 G0_v34 (g := (mkF m 86 (LS_RJsJsuuu r0 q1 (q1 - wm)) [(.ref r0), (.int cp), (.ref rr)])) rfl rfl (hb hby d13_86)
  refine own_go (B := T35.setTop (mkF m 89 (LS_RJsJsuuu r0 q1 (q1 - wm)) [(.ref da), (.int cp), (.ref rr)])) (fun t k => st35 _ k) ?_
  have Ed_v36 := Ed_v10.keep K16
  obtain ⟨cq37, kq37, q37a, q37b, q37c⟩ := isOf hZ e35 Ed_v36
  obtain ⟨_, _, ⟨T37, L37, k37, n37⟩, -, X37, ⟨Lc37, hQ37, l37, y37, z37⟩, st37⟩ := X35.virtualBack hx (y := (⟨"java/util/ArrayDeque", "size", "()I"⟩ : MethodName)) (z := (⟨"java/util/ArrayDeque", "size", "()I"⟩ : MethodName)) hown (mvT hZ (hw _ (List.mem_of_getElem? (i := 113) rfl))) (mvT hZ (hw _ (List.mem_of_getElem? (i := 114) rfl))) (notFace_of_selects (args := #[]) (mvT hZ (hw _ (List.mem_of_getElem? (i := 116) rfl)))) (mvT hZ (hw _ (List.mem_of_getElem? (i := 116) rfl))) (mvT hZ (hw _ (List.mem_of_getElem? (i := 115) rfl))) (by decide) (backOf (W := 2) (rmsiz10_0_1 l Z a0 hw [] da ea ka o9 T16.heap n0 Z0_v31 Ed_v36 Fe16 Fh16 Ft16 Va16 Ov g_da g_ea) hZ (hw _ (List.mem_of_getElem? (i := 117) rfl)) (hw _ (List.mem_of_getElem? (i := 67) rfl)) (by decide) (by decide)) q37a q37c (g := (mkF m 89 (LS_RJsJsuuu r0 q1 (q1 - wm)) [(.ref da), (.int cp), (.ref rr)])) rfl (by rw [hml]; rfl) (Steps.refl _) (argsL := []) (rest := [(.int cp), (.ref rr)]) (lenOf pd___I rfl) rfl (by show 2 * 0 + _ ≤ _; exact Nat.le_of_eq rfl) (hb hby d13_89) (fun _ _ => ⟨rfl, e35, (by decide : 1 + 0 ≤ _), (by decide : 1 + 0 ≤ _)⟩)
  dsimp only [Pt.U, Pt.locs, Pt.cells, Pt.slots] at X37 l37 y37 z37 st37 hQ37
  subst l37 y37 z37
  obtain ⟨rfl, N37q, e37⟩ := hQ37
  have N37 := Fr.app N32 N37q
  refine own_go (B := T37.setTop (mkF m 92 (LS_RJsJsuuu r0 q1 (q1 - wm)) [(.int (1 : Int32)), (.int cp), (.ref rr)])) (fun t k => st37.trans k) ?_
  refine own_go (B := T37.setTop (mkF m 93 (LS_RJsJsuuu r0 q1 (q1 - wm)) [(.int (cp - (1 : Int32))), (.ref rr)])) (fun t k => ?_) ?_
  · refine XS.isub X37.here hx rfl (hb hby d13_92) rfl ?_
    exact k
  have S_ZERO_v38 := own_sta_keep S_ZERO K9 all0
  have S_ZERO_v39 := own_sta_keep S_ZERO_v38 K16 (allS (own_plain_E Ed_v10) (allS (own_plain_V P3_v14) all0))
  have Ez_v40 := Ez.keep K9
  have Ez_v41 := Ez_v40.keep K16
  have Fz_v42 := Fz.keep K9 nin0
  have ne44 : wz ≠ ea := Exa.neArv Ez_v41 Va16 (hw _ (List.mem_of_getElem? (i := 253) rfl))
  have ne45 : wz ≠ da := Exa.ne Ez Ed (by decide)
  have Fz_v43 := Fz_v42.keep K16 (ninS ne45 (ninS ne44 nin0))
  obtain ⟨_, _, ⟨T46, L46, k46, n46⟩, -, X46, hs46, hg46, ⟨Lc46, hQ46, l46, y46, z46⟩, st46⟩ := callSS X37 hx (y := (⟨"com/example/blend2/blend2/Decision", "admitted", "(Lcom/example/blend2/blend2/Rule;I)Lcom/example/blend2/blend2/Decision;"⟩ : MethodName)) hown (mvT hZ (hw _ (List.mem_of_getElem? (i := 155) rfl))) (mvT hZ (hw _ (List.mem_of_getElem? (i := 156) rfl))) (mvT hZ (hw _ (List.mem_of_getElem? (i := 157) rfl))) (mvT hZ (hw _ (List.mem_of_getElem? (i := 158) rfl))) (by decide) (backOfS (W := 0) (rmad2 l Z a0 hw [] rr (cp - (1 : Int32)) wz T16.heap n0 Z0_v31 S_ZERO_v39 Ez_v41 Fz_v43 (own_rem1 hc1)) hZ (hw _ (List.mem_of_getElem? (i := 158) rfl)) (hw _ (List.mem_of_getElem? (i := 157) rfl)) (by decide) (by decide)) (g := (mkF m 93 (LS_RJsJsuuu r0 q1 (q1 - wm)) [(.int (cp - (1 : Int32))), (.ref rr)])) rfl (by rw [hml]; rfl) (argsL := [(.ref rr), (.int (cp - (1 : Int32)))]) (rest := []) (lenOf pd__Lcom_example_blend2_blend2_Rule_I_Lcom_example_blend2_blend2_Decision_ rfl) rfl (by show 2 * 0 + _ ≤ _; exact Nat.le_of_eq rfl) (hb hby d13_93) (fun _ _ => ⟨rfl, e37, (by decide : 1 + 8 ≤ _), (by decide : 1 + 95 ≤ _)⟩)
  dsimp only [Pt.U, Pt.locs, Pt.cells, Pt.slots] at X46 l46 y46 z46 st46 hQ46 hs46 hg46
  subst l46 y46 z46
  have hk0_v47 := Nat.le_trans hk0 K9.1
  have hk0_v48 := Nat.le_trans hk0_v47 K16.1
  have hS46 : s.Since T46.vm T46.heap.size := foldS (s := s) (vm0 := s.vm) (T := T37) (U := T46) hS0 (by rw [e37]; exact hk0_v48) hs46 hg46
  have hZ46 : Z.Warmed39 (s.setVm T46.vm).vm := State.Warmed39.trans (t := s.setVm s.vm) hZ hs46.1
  have ho46 : (s.setVm T46.vm).vm.findClass "com/example/blend2/blend2/SlidingWindowLog" = some m.cls := by rw [show (s.setVm T46.vm).vm = T46.vm from rfl, hs46.1.alike.findClass]; exact hown
  obtain ⟨o46, rfl, N46q, K46⟩ := hQ46
  have N46 := Fr.app N37 N46q
  have hk46 : T46.heap.size ≤ T46.heap.size := Nat.le_refl _
  refine own_go (B := T46.setTop (mkF m 96 (LS_RJsJsuuu r0 q1 (q1 - wm)) [(.ref o46)])) (fun t k => st46.trans k) ?_
  refine own_go (B := T46.setTop (mkF m 139 (LS_RJsJsRuu r0 q1 (q1 - wm) o46) [(.ref o46)])) (fun t k => ?_) ?_
  · refine XS.astore X46.here hx rfl (hb hby d13_96) rfl rfl (l' := (LS_RJsJsRuu r0 q1 (q1 - wm) o46)) rfl ?_
    refine XS.goto X46.here hx rfl (pc0 := 98) (pc' := 137) rfl (hb hby d13_98) (by decide) (by decide) ?_
    show Steps p.tables e below (T46.setTop (mkF m 137 (LS_RJsJsRuu r0 q1 (q1 - wm) o46) [])) _
    refine XS.aload X46.here hx rfl (hb hby d13_137) rfl rfl ?_
    exact k
  obtain ⟨fs, hr, hrun, hended, hRW⟩ := Stand.leaveW (s := s) (vm₁ := T46.vm) X46 hS46 hk46 (v := some (.ref o46)) (fun h => by rw [Bd.returns] at h; cases h) (BodyLoose.notSynchronized Bd)
  refine ⟨_, _, ?_, hrun, hended, _, _, rfl, ?_, hRW.1, hRW.2.1, hRW.2.2.1, hRW.2.2.2.mono (by decide) (by decide)⟩
  · show Steps p.tables e below (T46.setTop (mkF m 139 (LS_RJsJsRuu r0 q1 (q1 - wm) o46) [(.ref o46)])) _
    exact retOut X46 hx Bd.returns rfl (Or.inr (Or.inr (Or.inr (Or.inr ⟨rfl, rfl, rfl⟩)))) (hb hby d13_139) hr
  · show QdecA Z r0 q1 da ea ka wm rr wz wc cc cp h0 n0 _ T46.heap _
    have Fe16_v49 := Fe16.keep K46 nin0
    have Fh16_v50 := Fh16.keep K46 nin0
    have Ft16_v51 := Ft16.keep K46 nin0
    have Va16_v52 := Va16.keep K46 nin0
    have Ef9_v53 := Ef9.keep K16
    have Ef9_v54 := Ef9_v53.keep K46
    have ne56 : o9 ≠ ea := Exa.neArv Ef9_v54 Va16_v52 (hw _ (List.mem_of_getElem? (i := 132) rfl))
    have ne57 : o9 ≠ da := Exa.ne Ef9 Ed_v10 (by decide)
    have Fs9_v55 := Fs9.keep K16 (ninS ne57 (ninS ne56 nin0))
    have Fs9_v58 := Fs9_v55.keep K46 nin0
    have K0_v59 := K0.trans K9 all0
    have K0_v60 := K0_v59.trans K16 (allS (Or.inl (List.mem_of_getElem? (i := 0) rfl)) (allS (Or.inl (List.mem_of_getElem? (i := 1) rfl)) all0))
    have K0_v61 := K0_v60.trans K46 all0
    exact ⟨o46, rfl, N46, K0_v61, ⟨o9, Fe16_v49, Fh16_v50, Ft16_v51, Va16_v52, Ef9_v54, Fs9_v58⟩⟩
theorem ef_decB (m : MethodId) (r0 : Addr) (q1 : Int64) : entryFrame m #[(.ref r0), (.long q1)] 8 = mkF m 0 #[.val (.ref r0), .val (.long q1), .second, .unset, .unset, .unset, .unset, .unset] [] := by first | (simp [entryFrame, mkF, argsToLocals, Value.category]; done) | rfl
theorem d13_17 : decode prog_12_method_2_code 17 = .ok (.aload_n 0, 1) := by decide +kernel
theorem d13_18 : decode prog_12_method_2_code 18 = .ok (.getfield 10, 3) := by decide +kernel
theorem d13_21 : decode prog_12_method_2_code 21 = .ok (.invokevirtual 36, 3) := by decide +kernel
theorem d13_24 : decode prog_12_method_2_code 24 = .ok (.checkcast 40, 3) := by decide +kernel
theorem d13_27 : decode prog_12_method_2_code 27 = .ok (.invokevirtual 42, 3) := by decide +kernel
theorem d13_30 : decode prog_12_method_2_code 30 = .ok (.lload_n 3, 1) := by decide +kernel
theorem d13_31 : decode prog_12_method_2_code 31 = .ok (.lcmp, 1) := by decide +kernel
theorem d13_32 : decode prog_12_method_2_code 32 = .ok (.ifCond .gt 14, 3) := by decide +kernel
theorem d13_101 : decode prog_12_method_2_code 101 = .ok (.aload_n 0, 1) := by decide +kernel
theorem d13_102 : decode prog_12_method_2_code 102 = .ok (.getfield 10, 3) := by decide +kernel
theorem d13_105 : decode prog_12_method_2_code 105 = .ok (.invokevirtual 36, 3) := by decide +kernel
theorem d13_108 : decode prog_12_method_2_code 108 = .ok (.checkcast 40, 3) := by decide +kernel
theorem d13_111 : decode prog_12_method_2_code 111 = .ok (.invokevirtual 42, 3) := by decide +kernel
theorem d13_114 : decode prog_12_method_2_code 114 = .ok (.aload_n 0, 1) := by decide +kernel
theorem d13_115 : decode prog_12_method_2_code 115 = .ok (.getfield 28, 3) := by decide +kernel
theorem d13_118 : decode prog_12_method_2_code 118 = .ok (.ladd, 1) := by decide +kernel
theorem d13_119 : decode prog_12_method_2_code 119 = .ok (.lstore 6, 2) := by decide +kernel
abbrev LS_RJsJsuJs (a0 : Addr) (a1 : Int64) (a2 : Int64) (a3 : Int64) : Array Slot := #[.val (.ref a0), .val (.long a1), .second, .val (.long a2), .second, .unset, .val (.long a3), .second]
theorem d13_121 : decode prog_12_method_2_code 121 = .ok (.aload_n 0, 1) := by decide +kernel
theorem d13_122 : decode prog_12_method_2_code 122 = .ok (.getfield 16, 3) := by decide +kernel
theorem d13_125 : decode prog_12_method_2_code 125 = .ok (.lload 6, 2) := by decide +kernel
theorem d13_127 : decode prog_12_method_2_code 127 = .ok (.lload_n 1, 1) := by decide +kernel
theorem d13_128 : decode prog_12_method_2_code 128 = .ok (.lsub, 1) := by decide +kernel
theorem d13_129 : decode prog_12_method_2_code 129 = .ok (.invokestatic 68, 3) := by decide +kernel
theorem pd__J_Ljava_time_Duration_ : parseMethodDescriptor "(J)Ljava/time/Duration;" = some ⟨[.long], some (.object "java/time/Duration")⟩ := by decide +kernel
theorem d13_132 : decode prog_12_method_2_code 132 = .ok (.invokestatic 74, 3) := by decide +kernel
theorem pd__Lcom_example_blend2_blend2_Rule_Ljava_time_Duration__Lcom_example_blend2_blend2_Decision_ : parseMethodDescriptor "(Lcom/example/blend2/blend2/Rule;Ljava/time/Duration;)Lcom/example/blend2/blend2/Decision;" = some ⟨[(.object "com/example/blend2/blend2/Rule"), (.object "java/time/Duration")], some (.object "com/example/blend2/blend2/Decision")⟩ := by decide +kernel
theorem d13_135 : decode prog_12_method_2_code 135 = .ok (.astore 5, 2) := by decide +kernel
abbrev LS_RJsJsRJs (a0 : Addr) (a1 : Int64) (a2 : Int64) (a3 : Addr) (a4 : Int64) : Array Slot := #[.val (.ref a0), .val (.long a1), .second, .val (.long a2), .second, .val (.ref a3), .val (.long a4), .second]
theorem d13_35 : decode prog_12_method_2_code 35 = .ok (.aload_n 0, 1) := by decide +kernel
theorem d13_36 : decode prog_12_method_2_code 36 = .ok (.getfield 10, 3) := by decide +kernel
theorem d13_39 : decode prog_12_method_2_code 39 = .ok (.invokevirtual 46, 3) := by decide +kernel
theorem d13_42 : decode prog_12_method_2_code 42 = .ok (.pop, 1) := by decide +kernel
theorem d13_43 : decode prog_12_method_2_code 43 = .ok (.goto (-36), 3) := by decide +kernel
def QdecB (Z : State) (r0 : Addr) (q1 : Int64) (da ea : Addr) (ka : ClassId) (wm : Int64) (x0 : Addr) (v0 : Int64) (rr wz wc : Addr) (cc : Cell) (cp : Int32) (h0 : Heap) (n0 : Nat) (v : Option Value) (h : Heap) (L : List Loc) : Prop := ∃ r : Addr, v = some (.ref r) ∧ Fr n0 L ∧ Keep h0 h [da, ea] ∧ ((∃ x2 : Addr, ¬ ((q1 - wm) < v0) ∧ Fld Z h da "java/util/ArrayDeque" "elements" "[Ljava/lang/Object;" (.ref ea) ∧ Fld Z h da "java/util/ArrayDeque" "head" "I" (.int (1 : Int32)) ∧ Fld Z h da "java/util/ArrayDeque" "tail" "I" (.int (2 : Int32)) ∧ Arv Z h ea ka (.object "java/lang/Object") (17 : Int32) [.null, (.ref x2), .null, .null, .null, .null, .null, .null, .null, .null, .null, .null, .null, .null, .null, .null, .null] .null ∧ Exa Z h x2 "java/lang/Long" ∧ Fld Z h x2 "java/lang/Long" "value" "J" (.long q1)) ∨ (∃ x2 : Addr, ((q1 - wm) < v0) ∧ ((1 : Int32) < cp) ∧ Fld Z h da "java/util/ArrayDeque" "elements" "[Ljava/lang/Object;" (.ref ea) ∧ Fld Z h da "java/util/ArrayDeque" "head" "I" (.int (0 : Int32)) ∧ Fld Z h da "java/util/ArrayDeque" "tail" "I" (.int (2 : Int32)) ∧ Arv Z h ea ka (.object "java/lang/Object") (17 : Int32) [(.ref x0), (.ref x2), .null, .null, .null, .null, .null, .null, .null, .null, .null, .null, .null, .null, .null, .null, .null] .null ∧ Exa Z h x2 "java/lang/Long" ∧ Fld Z h x2 "java/lang/Long" "value" "J" (.long q1)) ∨ (((q1 - wm) < v0) ∧ ¬ ((1 : Int32) < cp) ∧ Fld Z h da "java/util/ArrayDeque" "elements" "[Ljava/lang/Object;" (.ref ea) ∧ Fld Z h da "java/util/ArrayDeque" "head" "I" (.int (0 : Int32)) ∧ Fld Z h da "java/util/ArrayDeque" "tail" "I" (.int (1 : Int32)) ∧ Arv Z h ea ka (.object "java/lang/Object") (17 : Int32) [(.ref x0), .null, .null, .null, .null, .null, .null, .null, .null, .null, .null, .null, .null, .null, .null, .null, .null] .null))
set_option maxRecDepth 65536 in
set_option maxHeartbeats 40000000 in
theorem rmdecB (l : Launch) (Z : State) (a0 : Array Value) (hw : ∀ d ∈ tables_1, d.before a0 Z = true) (ws : List Jvm.Cond) (r0 : Addr) (q1 : Int64) (da ea : Addr) (ka : ClassId) (wm : Int64) (x0 : Addr) (v0 : Int64) (rr wz wc : Addr) (cc : Cell) (cp : Int32) (h0 : Heap) (n0 : Nat) (Z0 : n0 ≤ h0.size) (S_ZERO : Sta Z h0 "java/time/Duration" "ZERO" "Ljava/time/Duration;" (.ref wz)) (Ez : Exa Z h0 wz "java/time/Duration") (Fz : Fld Z h0 wz "java/time/Duration" "seconds" "J" (.long (0 : Int64))) (OL : Old Z n0 h0) (BX : Bxs Z wc cc "java/lang/Long" "J" (256 : Int32) (fun j : Int32 => Value.long ((j - (128 : Int32)).toInt64))) (S_cache : Sta Z h0 "java/lang/Long$LongCache" "cache" "[Ljava/lang/Long;" (.ref wc)) (Er : Exa Z h0 rr "com/example/blend2/blend2/Rule") (Fc : Fld Z h0 rr "com/example/blend2/blend2/Rule" "capacity" "I" (.int cp)) (G1 : Fld Z h0 r0 "com/example/blend2/blend2/SlidingWindowLog" "rule" "Lcom/example/blend2/blend2/Rule;" (.ref rr)) (E0 : Exa Z h0 r0 "com/example/blend2/blend2/SlidingWindowLog") (G0 : Fld Z h0 r0 "com/example/blend2/blend2/SlidingWindowLog" "admitted" "Ljava/util/ArrayDeque;" (.ref da)) (G2 : Fld Z h0 r0 "com/example/blend2/blend2/SlidingWindowLog" "windowMillis" "J" (.long wm)) (Ed : Exa Z h0 da "java/util/ArrayDeque") (P0 : Fld Z h0 da "java/util/ArrayDeque" "elements" "[Ljava/lang/Object;" (.ref ea)) (P1 : Fld Z h0 da "java/util/ArrayDeque" "head" "I" (.int (0 : Int32))) (P2 : Fld Z h0 da "java/util/ArrayDeque" "tail" "I" (.int (1 : Int32))) (P3 : Arv Z h0 ea ka (.object "java/lang/Object") (17 : Int32) [(.ref x0), .null, .null, .null, .null, .null, .null, .null, .null, .null, .null, .null, .null, .null, .null, .null, .null] .null) (Ov : Ovr Z ka "java/lang/Object") (g_da : n0 ≤ da) (g_ea : n0 ≤ ea) (Ex0 : Exa Z h0 x0 "java/lang/Long") (Fx0 : Fld Z h0 x0 "java/lang/Long" "value" "J" (.long v0)) (hw1 : 1000 ≤ wm.toInt ∧ wm.toInt ≤ 2147483647000) (hc1 : 1 ≤ cp.toInt ∧ cp.toInt ≤ 2) (hv1 : -4611686018427387904 ≤ v0.toInt) (hv12 : v0.toInt ≤ q1.toInt) (hv2 : q1.toInt ≤ 4611686018427387904) :
    MetFree l (⟨"com/example/blend2/blend2/SlidingWindowLog", "decide", "(J)Lcom/example/blend2/blend2/Decision;"⟩ : MethodName) (head1 (Jvm.Cond.code (⟨"com/example/blend2/blend2/SlidingWindowLog", "decide", "(J)Lcom/example/blend2/blend2/Decision;"⟩ : MethodName) prog_12_method_2_code 8 (some (.object "com/example/blend2/blend2/Decision")) :: ws) ({ frames := 5, cells := 10, slots := 98, locals := 125 } : Room)) (fun a U => a = #[(.ref r0), (.long q1)] ∧ Z.Warmed39 U.vm ∧ U.heap = h0) (fun _ _ _ _ _ => True) (fun _ U o U' => ∃ v L, o = .returned v ∧ QdecB Z r0 q1 da ea ka wm x0 v0 rr wz wc cc cp h0 n0 v U'.heap L ∧ ReturnedEndW U o U' L ({ frames := 5, cells := 10, slots := 98, locals := 125 } : Room).cells ({ frames := 5, cells := 10, slots := 98, locals := 125 } : Room).slots) := by
  refine MetFree.of_bodySF (plainFor_of_name pn_13) hisR ?_
  intro p e s m args below meth c s₁ Bd hml0 hP hK
  obtain ⟨rfl, hZ, hh⟩ := hP
  have hx := Bd.exec
  have hby := Bd.bytes
  have hml : c.maxLocals = 8 := hml0
  have hown : s.vm.findClass "com/example/blend2/blend2/SlidingWindowLog" = some m.cls := findClass_of_methodNamed Bd.named
  have hnm := (name_of_methodNamed Bd.named Bd.method).1
  have X0 : Stand p l e ({ frames := 5, cells := 10, slots := 98, locals := 125 } : Room) s m #[(.ref r0), (.long q1)] below meth c s₁ [] 0 0 := Stand.of_body Bd
  have e0 : s₁.heap = h0 := by rw [← hh, Bd.state]; rfl
  have N0 := Fr.nil n0
  refine own_go (B := s₁.setTop (mkF m 0 (LS_RJsuuuuu r0 q1) [])) (fun t k => castTop (ef_decB m r0 q1) k) ?_
  have hS0 : s.Since s.vm 0 := (State.WarmedH.refl s).since 0
  have hk0 : 0 ≤ Array.size h0 := Nat.zero_le _
  have K0 : Keep h0 h0 [da, ea] := Keep.refl _ _
  refine own_go (B := s₁.setTop (mkF m 2 (LS_RJsuuuuu r0 q1) [(.ref r0), (.long q1)])) (fun t k => ?_) ?_
  · refine XS.lloadN X0.here hx rfl (hb hby d13_0) rfl ?_
    refine XS.aloadN X0.here hx rfl (hb hby d13_1) rfl rfl ?_
    exact k
  obtain ⟨T1, X1, e1, st1⟩ := getF X0 hx hZ hown (host := "") (Or.inl (hw _ (List.mem_of_getElem? (i := 92) rfl))) Via.refl e0 G2 (g := (mkF m 2 (LS_RJsuuuuu r0 q1) [(.ref r0), (.long q1)])) rfl rfl (hb hby d13_2)
  refine own_go (B := T1.setTop (mkF m 5 (LS_RJsuuuuu r0 q1) [(.long wm), (.long q1)])) (fun t k => st1 _ k) ?_
  refine own_go (B := T1.setTop (mkF m 8 (LS_RJsJsuuu r0 q1 (q1 - wm)) [(.ref r0)])) (fun t k => ?_) ?_
  · refine XS.lsub X1.here hx rfl (hb hby d13_5) rfl ?_
    refine XS.lstoreN X1.here hx rfl (hb hby d13_6) rfl (l' := (LS_RJsJsuuu r0 q1 (q1 - wm))) rfl ?_
    show Steps p.tables e below (T1.setTop (mkF m 7 (LS_RJsJsuuu r0 q1 (q1 - wm)) [])) _
    refine XS.aloadN X1.here hx rfl (hb hby d13_7) rfl rfl ?_
    exact k
  obtain ⟨T2, X2, e2, st2⟩ := getF X1 hx hZ hown (host := "") (Or.inl (hw _ (List.mem_of_getElem? (i := 82) rfl))) Via.refl e1 G0 (g := (mkF m 8 (LS_RJsJsuuu r0 q1 (q1 - wm)) [(.ref r0)])) rfl rfl (hb hby d13_8)
  refine own_go (B := T2.setTop (mkF m 11 (LS_RJsJsuuu r0 q1 (q1 - wm)) [(.ref da)])) (fun t k => st2 _ k) ?_
  obtain ⟨cq3, kq3, q3a, q3b, q3c⟩ := isOf hZ e2 Ed
  obtain ⟨_, _, ⟨T3, L3, k3, n3⟩, -, X3, ⟨Lc3, hQ3, l3, y3, z3⟩, st3⟩ := X2.virtualBack hx (y := (⟨"java/util/ArrayDeque", "isEmpty", "()Z"⟩ : MethodName)) (z := (⟨"java/util/ArrayDeque", "isEmpty", "()Z"⟩ : MethodName)) hown (mvT hZ (hw _ (List.mem_of_getElem? (i := 99) rfl))) (mvT hZ (hw _ (List.mem_of_getElem? (i := 100) rfl))) (notFace_of_selects (args := #[]) (mvT hZ (hw _ (List.mem_of_getElem? (i := 102) rfl)))) (mvT hZ (hw _ (List.mem_of_getElem? (i := 102) rfl))) (mvT hZ (hw _ (List.mem_of_getElem? (i := 101) rfl))) (by decide) (backOf (W := 0) (rmemp l Z a0 hw [] da (0 : Int32) (1 : Int32) h0 n0 Z0 P1 P2) hZ (hw _ (List.mem_of_getElem? (i := 103) rfl)) (hw _ (List.mem_of_getElem? (i := 67) rfl)) (by decide) (by decide)) q3a q3c (g := (mkF m 11 (LS_RJsJsuuu r0 q1 (q1 - wm)) [(.ref da)])) rfl (by rw [hml]; rfl) (Steps.refl _) (argsL := []) (rest := []) (lenOf pd___Z rfl) rfl (by show 2 * 0 + _ ≤ _; exact Nat.le_of_eq rfl) (hb hby d13_11) (fun _ _ => ⟨rfl, e2, (by decide : 0 + 0 ≤ _), (by decide : 0 + 0 ≤ _)⟩)
  dsimp only [Pt.U, Pt.locs, Pt.cells, Pt.slots] at X3 l3 y3 z3 st3 hQ3
  subst l3 y3 z3
  obtain ⟨rfl, N3q, e3⟩ := hQ3
  have N3 := Fr.app N0 N3q
  refine own_go (B := T3.setTop (mkF m 14 (LS_RJsJsuuu r0 q1 (q1 - wm)) [(.int (if (0 : Int32) = (1 : Int32) then (1 : Int32) else (0 : Int32)))])) (fun t k => st3.trans k) ?_
  rw [show (if (0 : Int32) = (1 : Int32) then (1 : Int32) else (0 : Int32)) = (0 : Int32) from by decide]
  refine own_go (B := T3.setTop (mkF m 18 (LS_RJsJsuuu r0 q1 (q1 - wm)) [(.ref r0)])) (fun t k => ?_) ?_
  · refine XS.ifNo X3.here hx rfl (hb hby d13_14) rfl ((if0 _ _).trans (teq (by decide : (0 : Int32) = (0 : Int32))).2) ?_
    refine XS.aloadN X3.here hx rfl (hb hby d13_17) rfl rfl ?_
    exact k
  obtain ⟨T4, X4, e4, st4⟩ := getF X3 hx hZ hown (host := "") (Or.inl (hw _ (List.mem_of_getElem? (i := 82) rfl))) Via.refl e3 G0 (g := (mkF m 18 (LS_RJsJsuuu r0 q1 (q1 - wm)) [(.ref r0)])) rfl rfl (hb hby d13_18)
  refine own_go (B := T4.setTop (mkF m 21 (LS_RJsJsuuu r0 q1 (q1 - wm)) [(.ref da)])) (fun t k => st4 _ k) ?_
  obtain ⟨cq5, kq5, q5a, q5b, q5c⟩ := isOf hZ e4 Ed
  obtain ⟨_, _, ⟨T5, L5, k5, n5⟩, -, X5, ⟨Lc5, hQ5, l5, y5, z5⟩, st5⟩ := X4.virtualBack hx (y := (⟨"java/util/ArrayDeque", "peekFirst", "()Ljava/lang/Object;"⟩ : MethodName)) (z := (⟨"java/util/ArrayDeque", "peekFirst", "()Ljava/lang/Object;"⟩ : MethodName)) hown (mvT hZ (hw _ (List.mem_of_getElem? (i := 209) rfl))) (mvT hZ (hw _ (List.mem_of_getElem? (i := 210) rfl))) (notFace_of_selects (args := #[]) (mvT hZ (hw _ (List.mem_of_getElem? (i := 212) rfl)))) (mvT hZ (hw _ (List.mem_of_getElem? (i := 212) rfl))) (mvT hZ (hw _ (List.mem_of_getElem? (i := 211) rfl))) (by decide) (backOf (W := 0) (rmpeekFirst10_0_1 l Z a0 hw [] da ea ka x0 h0 n0 Z0 Ed P0 P1 P2 P3 Ov g_da g_ea) hZ (hw _ (List.mem_of_getElem? (i := 213) rfl)) (hw _ (List.mem_of_getElem? (i := 67) rfl)) (by decide) (by decide)) q5a q5c (g := (mkF m 21 (LS_RJsJsuuu r0 q1 (q1 - wm)) [(.ref da)])) rfl (by rw [hml]; rfl) (Steps.refl _) (argsL := []) (rest := []) (lenOf pd___Ljava_lang_Object_ rfl) rfl (by show 2 * 0 + _ ≤ _; exact Nat.le_of_eq rfl) (hb hby d13_21) (fun _ _ => ⟨rfl, e4, (by decide : 0 + 0 ≤ _), (by decide : 0 + 0 ≤ _)⟩)
  dsimp only [Pt.U, Pt.locs, Pt.cells, Pt.slots] at X5 l5 y5 z5 st5 hQ5
  subst l5 y5 z5
  obtain ⟨rfl, N5q, e5⟩ := hQ5
  have N5 := Fr.app N3 N5q
  refine own_go (B := T5.setTop (mkF m 24 (LS_RJsJsuuu r0 q1 (q1 - wm)) [(.ref x0)])) (fun t k => st5.trans k) ?_
  obtain ⟨T6, X6, e6, st6⟩ := castY X5 hx hZ hown (hw _ (List.mem_of_getElem? (i := 217) rfl)) e5 (Ins.self Ex0) (g := (mkF m 24 (LS_RJsJsuuu r0 q1 (q1 - wm)) [(.ref x0)])) rfl rfl (hb hby d13_24)
  refine own_go (B := T6.setTop (mkF m 27 (LS_RJsJsuuu r0 q1 (q1 - wm)) [(.ref x0)])) (fun t k => st6 _ k) ?_
  obtain ⟨cq7, kq7, q7a, q7b, q7c⟩ := isOf hZ e6 Ex0
  obtain ⟨_, _, ⟨T7, L7, k7, n7⟩, -, X7, ⟨Lc7, hQ7, l7, y7, z7⟩, st7⟩ := X6.virtualBack hx (y := (⟨"java/lang/Long", "longValue", "()J"⟩ : MethodName)) (z := (⟨"java/lang/Long", "longValue", "()J"⟩ : MethodName)) hown (mvT hZ (hw _ (List.mem_of_getElem? (i := 218) rfl))) (mvT hZ (hw _ (List.mem_of_getElem? (i := 219) rfl))) (notFace_of_selects (args := #[]) (mvT hZ (hw _ (List.mem_of_getElem? (i := 221) rfl)))) (mvT hZ (hw _ (List.mem_of_getElem? (i := 221) rfl))) (mvT hZ (hw _ (List.mem_of_getElem? (i := 220) rfl))) (by decide) (backOf (W := 0) (rmlov l Z a0 hw [] x0 v0 h0 n0 Z0 Fx0) hZ (hw _ (List.mem_of_getElem? (i := 222) rfl)) (hw _ (List.mem_of_getElem? (i := 128) rfl)) (by decide) (by decide)) q7a q7c (g := (mkF m 27 (LS_RJsJsuuu r0 q1 (q1 - wm)) [(.ref x0)])) rfl (by rw [hml]; rfl) (Steps.refl _) (argsL := []) (rest := []) (lenOf pd___J rfl) rfl (by show 2 * 0 + _ ≤ _; exact Nat.le_of_eq rfl) (hb hby d13_27) (fun _ _ => ⟨rfl, e6, (by decide : 0 + 0 ≤ _), (by decide : 0 + 0 ≤ _)⟩)
  dsimp only [Pt.U, Pt.locs, Pt.cells, Pt.slots] at X7 l7 y7 z7 st7 hQ7
  subst l7 y7 z7
  obtain ⟨rfl, N7q, e7⟩ := hQ7
  have N7 := Fr.app N5 N7q
  refine own_go (B := T7.setTop (mkF m 30 (LS_RJsJsuuu r0 q1 (q1 - wm)) [(.long v0)])) (fun t k => st7.trans k) ?_
  refine own_go (B := T7.setTop (mkF m 32 (LS_RJsJsuuu r0 q1 (q1 - wm)) [(.int (lcmpW v0 (q1 - wm)))])) (fun t k => ?_) ?_
  · refine XS.lloadN X7.here hx rfl (hb hby d13_30) rfl ?_
    refine XS.lcmp X7.here hx rfl (hb hby d13_31) rfl ?_
    exact k
  by_cases hc32_8 : (q1 - wm) < v0
  · refine own_go (B := T7.setTop (mkF m 47 (LS_RJsJsuuu r0 q1 (q1 - wm)) [(.ref r0)])) (fun t k => ?_) ?_
    · refine XS.ifYes X7.here hx rfl (pc0 := 32) (pc' := 46) rfl (hb hby d13_32) rfl ((if0 _ _).trans (tlt ((lw_gt v0 (q1 - wm)).mpr hc32_8)).2.2.1) (by decide) (by decide) ?_
      refine XS.aloadN X7.here hx rfl (hb hby d13_46) rfl rfl ?_
      exact k
    obtain ⟨T9, X9, e9, st9⟩ := getF X7 hx hZ hown (host := "") (Or.inl (hw _ (List.mem_of_getElem? (i := 82) rfl))) Via.refl e7 G0 (g := (mkF m 47 (LS_RJsJsuuu r0 q1 (q1 - wm)) [(.ref r0)])) rfl rfl (hb hby d13_47)
    refine own_go (B := T9.setTop (mkF m 50 (LS_RJsJsuuu r0 q1 (q1 - wm)) [(.ref da)])) (fun t k => st9 _ k) ?_
    obtain ⟨cq10, kq10, q10a, q10b, q10c⟩ := isOf hZ e9 Ed
    obtain ⟨_, _, ⟨T10, L10, k10, n10⟩, -, X10, ⟨Lc10, hQ10, l10, y10, z10⟩, st10⟩ := X9.virtualBack hx (y := (⟨"java/util/ArrayDeque", "size", "()I"⟩ : MethodName)) (z := (⟨"java/util/ArrayDeque", "size", "()I"⟩ : MethodName)) hown (mvT hZ (hw _ (List.mem_of_getElem? (i := 113) rfl))) (mvT hZ (hw _ (List.mem_of_getElem? (i := 114) rfl))) (notFace_of_selects (args := #[]) (mvT hZ (hw _ (List.mem_of_getElem? (i := 116) rfl)))) (mvT hZ (hw _ (List.mem_of_getElem? (i := 116) rfl))) (mvT hZ (hw _ (List.mem_of_getElem? (i := 115) rfl))) (by decide) (backOf (W := 0) (rmsiz10_0_1 l Z a0 hw [] da ea ka x0 h0 n0 Z0 Ed P0 P1 P2 P3 Ov g_da g_ea) hZ (hw _ (List.mem_of_getElem? (i := 117) rfl)) (hw _ (List.mem_of_getElem? (i := 67) rfl)) (by decide) (by decide)) q10a q10c (g := (mkF m 50 (LS_RJsJsuuu r0 q1 (q1 - wm)) [(.ref da)])) rfl (by rw [hml]; rfl) (Steps.refl _) (argsL := []) (rest := []) (lenOf pd___I rfl) rfl (by show 2 * 0 + _ ≤ _; exact Nat.le_of_eq rfl) (hb hby d13_50) (fun _ _ => ⟨rfl, e9, (by decide : 0 + 0 ≤ _), (by decide : 0 + 0 ≤ _)⟩)
    dsimp only [Pt.U, Pt.locs, Pt.cells, Pt.slots] at X10 l10 y10 z10 st10 hQ10
    subst l10 y10 z10
    obtain ⟨rfl, N10q, e10⟩ := hQ10
    have N10 := Fr.app N7 N10q
    refine own_go (B := T10.setTop (mkF m 53 (LS_RJsJsuuu r0 q1 (q1 - wm)) [(.int (1 : Int32))])) (fun t k => st10.trans k) ?_
    refine own_go (B := T10.setTop (mkF m 54 (LS_RJsJsuuu r0 q1 (q1 - wm)) [(.ref r0), (.int (1 : Int32))])) (fun t k => ?_) ?_
    · refine XS.aloadN X10.here hx rfl (hb hby d13_53) rfl rfl ?_
      exact k
    obtain ⟨T11, X11, e11, st11⟩ := getF X10 hx hZ hown (host := "") (Or.inl (hw _ (List.mem_of_getElem? (i := 84) rfl))) Via.refl e10 G1 (g := (mkF m 54 (LS_RJsJsuuu r0 q1 (q1 - wm)) [(.ref r0), (.int (1 : Int32))])) rfl rfl (hb hby d13_54)
    refine own_go (B := T11.setTop (mkF m 57 (LS_RJsJsuuu r0 q1 (q1 - wm)) [(.ref rr), (.int (1 : Int32))])) (fun t k => st11 _ k) ?_
    obtain ⟨cq12, kq12, q12a, q12b, q12c⟩ := isOf hZ e11 Er
    obtain ⟨_, _, ⟨T12, L12, k12, n12⟩, -, X12, ⟨Lc12, hQ12, l12, y12, z12⟩, st12⟩ := X11.virtualBack hx (y := (⟨"com/example/blend2/blend2/Rule", "capacity", "()I"⟩ : MethodName)) (z := (⟨"com/example/blend2/blend2/Rule", "capacity", "()I"⟩ : MethodName)) hown (mvT hZ (hw _ (List.mem_of_getElem? (i := 121) rfl))) (mvT hZ (hw _ (List.mem_of_getElem? (i := 122) rfl))) (notFace_of_selects (args := #[]) (mvT hZ (hw _ (List.mem_of_getElem? (i := 124) rfl)))) (mvT hZ (hw _ (List.mem_of_getElem? (i := 124) rfl))) (mvT hZ (hw _ (List.mem_of_getElem? (i := 123) rfl))) (by decide) (backOf (W := 1) (rmgcapacity l Z a0 hw [] rr cp h0 n0 Z0 Fc) hZ (hw _ (List.mem_of_getElem? (i := 125) rfl)) (hw _ (List.mem_of_getElem? (i := 13) rfl)) (by decide) (by decide)) q12a q12c (g := (mkF m 57 (LS_RJsJsuuu r0 q1 (q1 - wm)) [(.ref rr), (.int (1 : Int32))])) rfl (by rw [hml]; rfl) (Steps.refl _) (argsL := []) (rest := [(.int (1 : Int32))]) (lenOf pd___I rfl) rfl (by show 2 * 0 + _ ≤ _; exact Nat.le_of_eq rfl) (hb hby d13_57) (fun _ _ => ⟨rfl, e11, (by decide : 0 + 0 ≤ _), (by decide : 0 + 0 ≤ _)⟩)
    dsimp only [Pt.U, Pt.locs, Pt.cells, Pt.slots] at X12 l12 y12 z12 st12 hQ12
    subst l12 y12 z12
    obtain ⟨rfl, N12q, e12⟩ := hQ12
    have N12 := Fr.app N10 N12q
    refine own_go (B := T12.setTop (mkF m 60 (LS_RJsJsuuu r0 q1 (q1 - wm)) [(.int cp), (.int (1 : Int32))])) (fun t k => st12.trans k) ?_
    by_cases hc60_13 : (1 : Int32) < cp
    · refine own_go (B := T12.setTop (mkF m 64 (LS_RJsJsuuu r0 q1 (q1 - wm)) [(.ref r0)])) (fun t k => ?_) ?_
      · refine XS.icmpNo X12.here hx rfl (hb hby d13_60) rfl (tlt hc60_13).2.1 ?_
        refine XS.aloadN X12.here hx rfl (hb hby d13_63) rfl rfl ?_
        exact k
      obtain ⟨T14, X14, e14, st14⟩ := getF X12 hx hZ hown (host := "") (Or.inl (hw _ (List.mem_of_getElem? (i := 82) rfl))) Via.refl e12 G0 (g := (mkF m 64 (LS_RJsJsuuu r0 q1 (q1 - wm)) [(.ref r0)])) rfl rfl (hb hby d13_64)
      refine own_go (B := T14.setTop (mkF m 67 (LS_RJsJsuuu r0 q1 (q1 - wm)) [(.ref da)])) (fun t k => st14 _ k) ?_
      refine own_go (B := T14.setTop (mkF m 68 (LS_RJsJsuuu r0 q1 (q1 - wm)) [(.long q1), (.ref da)])) (fun t k => ?_) ?_
      · refine XS.lloadN X14.here hx rfl (hb hby d13_67) rfl ?_
        exact k
      obtain ⟨_, _, ⟨T15, L15, k15, n15⟩, -, X15, ⟨Lc15, hQ15, l15, y15, z15⟩, st15⟩ := Jvm.LawKit.callS X14 hx (y := (⟨"java/lang/Long", "valueOf", "(J)Ljava/lang/Long;"⟩ : MethodName)) hown (mvT hZ (hw _ (List.mem_of_getElem? (i := 126) rfl))) (mvT hZ (hw _ (List.mem_of_getElem? (i := 127) rfl))) (mvT hZ (hw _ (List.mem_of_getElem? (i := 128) rfl))) (mvT hZ (hw _ (List.mem_of_getElem? (i := 129) rfl))) (by decide) (backOf (W := 1) (rmvof l Z a0 hw [] q1 wc cc h0 n0 Z0 OL BX S_cache) hZ (hw _ (List.mem_of_getElem? (i := 129) rfl)) (hw _ (List.mem_of_getElem? (i := 128) rfl)) (by decide) (by decide)) (g := (mkF m 68 (LS_RJsJsuuu r0 q1 (q1 - wm)) [(.long q1), (.ref da)])) rfl (by rw [hml]; rfl) (argsL := [(.long q1)]) (rest := [(.ref da)]) (lenOf pd__J_Ljava_lang_Long_ rfl) rfl (by show 2 * 0 + _ ≤ _; exact Nat.le_of_eq rfl) (hb hby d13_68) (fun _ _ => ⟨rfl, e14, (by decide : 0 + 1 ≤ _), (by decide : 0 + 1 ≤ _)⟩)
      dsimp only [Pt.U, Pt.locs, Pt.cells, Pt.slots] at X15 l15 y15 z15 st15 hQ15
      subst l15 y15 z15
      obtain ⟨o15, rfl, N15q, K15, Ef15, Fs15⟩ := hQ15
      have N15 := Fr.app N12 N15q
      refine own_go (B := T15.setTop (mkF m 71 (LS_RJsJsuuu r0 q1 (q1 - wm)) [(.ref o15), (.ref da)])) (fun t k => st15 _ k) ?_
      have Ed_v16 := Ed.keep K15
      have P0_v17 := P0.keep K15 nin0
      have P1_v18 := P1.keep K15 nin0
      have P2_v19 := P2.keep K15 nin0
      have P3_v20 := P3.keep K15 nin0
      have Z0_v21 := Nat.le_trans Z0 K15.1
      obtain ⟨cq22, kq22, q22a, q22b, q22c⟩ := isOf hZ rfl Ed_v16
      obtain ⟨_, _, ⟨T22, L22, k22, n22⟩, -, X22, ⟨Lc22, hQ22, l22, y22, z22⟩, st22⟩ := X15.virtualBack hx (y := (⟨"java/util/ArrayDeque", "addLast", "(Ljava/lang/Object;)V"⟩ : MethodName)) (z := (⟨"java/util/ArrayDeque", "addLast", "(Ljava/lang/Object;)V"⟩ : MethodName)) hown (mvT hZ (hw _ (List.mem_of_getElem? (i := 146) rfl))) (mvT hZ (hw _ (List.mem_of_getElem? (i := 147) rfl))) (notFace_of_selects (args := #[]) (mvT hZ (hw _ (List.mem_of_getElem? (i := 149) rfl)))) (mvT hZ (hw _ (List.mem_of_getElem? (i := 149) rfl))) (mvT hZ (hw _ (List.mem_of_getElem? (i := 148) rfl))) (by decide) (backOf (W := 0) (rmaddl10_0_1 l Z a0 hw [] da o15 ea ka x0 T15.heap n0 Z0_v21 Ed_v16 P0_v17 P1_v18 P2_v19 P3_v20 Ov g_da g_ea Ef15) hZ (hw _ (List.mem_of_getElem? (i := 150) rfl)) (hw _ (List.mem_of_getElem? (i := 67) rfl)) (by decide) (by decide)) q22a q22c (g := (mkF m 71 (LS_RJsJsuuu r0 q1 (q1 - wm)) [(.ref o15), (.ref da)])) rfl (by rw [hml]; rfl) (Steps.refl _) (argsL := [(.ref o15)]) (rest := []) (lenOf pd__Ljava_lang_Object__V rfl) rfl (by show 2 * 0 + _ ≤ _; exact Nat.le_of_eq rfl) (hb hby d13_71) (fun _ _ => ⟨rfl, rfl, (by decide : 1 + 0 ≤ _), (by decide : 1 + 0 ≤ _)⟩)
      dsimp only [Pt.U, Pt.locs, Pt.cells, Pt.slots] at X22 l22 y22 z22 st22 hQ22
      subst l22 y22 z22
      obtain ⟨rfl, N22q, K22, Fe22, Fh22, Ft22, Va22⟩ := hQ22
      have N22 := Fr.app N15 N22q
      refine own_go (B := T22.setTop (mkF m 74 (LS_RJsJsuuu r0 q1 (q1 - wm)) [])) (fun t k => st22.trans k) ?_
      have G1_v23 := G1.keep K15 nin0
      have E0_v26 := E0.keep K15
      have E0_v27 := E0_v26.keep K22
      have ne25 : r0 ≠ ea := Exa.neArv E0_v27 Va22 (hw _ (List.mem_of_getElem? (i := 9) rfl))
      have ne28 : r0 ≠ da := Exa.ne E0 Ed (by decide)
      have G1_v24 := G1_v23.keep K22 (ninS ne28 (ninS ne25 nin0))
      refine own_go (B := T22.setTop (mkF m 75 (LS_RJsJsuuu r0 q1 (q1 - wm)) [(.ref r0)])) (fun t k => ?_) ?_
      · refine XS.aloadN X22.here hx rfl (hb hby d13_74) rfl rfl ?_
        exact k
      obtain ⟨T29, X29, e29, st29⟩ := getF X22 hx hZ hown (host := "") (Or.inl (hw _ (List.mem_of_getElem? (i := 84) rfl))) Via.refl rfl G1_v24 (g := (mkF m 75 (LS_RJsJsuuu r0 q1 (q1 - wm)) [(.ref r0)])) rfl rfl (hb hby d13_75)
      refine own_go (B := T29.setTop (mkF m 78 (LS_RJsJsuuu r0 q1 (q1 - wm)) [(.ref rr)])) (fun t k => st29 _ k) ?_
      refine own_go (B := T29.setTop (mkF m 79 (LS_RJsJsuuu r0 q1 (q1 - wm)) [(.ref r0), (.ref rr)])) (fun t k => ?_) ?_
      · refine XS.aloadN X29.here hx rfl (hb hby d13_78) rfl rfl ?_
        exact k
      obtain ⟨T30, X30, e30, st30⟩ := getF X29 hx hZ hown (host := "") (Or.inl (hw _ (List.mem_of_getElem? (i := 84) rfl))) Via.refl e29 G1_v24 (g := (mkF m 79 (LS_RJsJsuuu r0 q1 (q1 - wm)) [(.ref r0), (.ref rr)])) rfl rfl (hb hby d13_79)
      refine own_go (B := T30.setTop (mkF m 82 (LS_RJsJsuuu r0 q1 (q1 - wm)) [(.ref rr), (.ref rr)])) (fun t k => st30 _ k) ?_
      have Fc_v31 := Fc.keep K15 nin0
      have Er_v34 := Er.keep K15
      have Er_v35 := Er_v34.keep K22
      have ne33 : rr ≠ ea := Exa.neArv Er_v35 Va22 (hw _ (List.mem_of_getElem? (i := 12) rfl))
      have ne36 : rr ≠ da := Exa.ne Er Ed (by decide)
      have Fc_v32 := Fc_v31.keep K22 (ninS ne36 (ninS ne33 nin0))
      have Z0_v37 := Nat.le_trans Z0_v21 K22.1
      obtain ⟨cq38, kq38, q38a, q38b, q38c⟩ := isOf hZ e30 Er_v35
      obtain ⟨_, _, ⟨T38, L38, k38, n38⟩, -, X38, ⟨Lc38, hQ38, l38, y38, z38⟩, st38⟩ := X30.virtualBack hx (y := (⟨"com/example/blend2/blend2/Rule", "capacity", "()I"⟩ : MethodName)) (z := (⟨"com/example/blend2/blend2/Rule", "capacity", "()I"⟩ : MethodName)) hown (mvT hZ (hw _ (List.mem_of_getElem? (i := 121) rfl))) (mvT hZ (hw _ (List.mem_of_getElem? (i := 122) rfl))) (notFace_of_selects (args := #[]) (mvT hZ (hw _ (List.mem_of_getElem? (i := 124) rfl)))) (mvT hZ (hw _ (List.mem_of_getElem? (i := 124) rfl))) (mvT hZ (hw _ (List.mem_of_getElem? (i := 123) rfl))) (by decide) (backOf (W := 1) (rmgcapacity l Z a0 hw [] rr cp T22.heap n0 Z0_v37 Fc_v32) hZ (hw _ (List.mem_of_getElem? (i := 125) rfl)) (hw _ (List.mem_of_getElem? (i := 13) rfl)) (by decide) (by decide)) q38a q38c (g := (mkF m 82 (LS_RJsJsuuu r0 q1 (q1 - wm)) [(.ref rr), (.ref rr)])) rfl (by rw [hml]; rfl) (Steps.refl _) (argsL := []) (rest := [(.ref rr)]) (lenOf pd___I rfl) rfl (by show 2 * 0 + _ ≤ _; exact Nat.le_of_eq rfl) (hb hby d13_82) (fun _ _ => ⟨rfl, e30, (by decide : 1 + 0 ≤ _), (by decide : 1 + 0 ≤ _)⟩)
      dsimp only [Pt.U, Pt.locs, Pt.cells, Pt.slots] at X38 l38 y38 z38 st38 hQ38
      subst l38 y38 z38
      obtain ⟨rfl, N38q, e38⟩ := hQ38
      have N38 := Fr.app N22 N38q
      refine own_go (B := T38.setTop (mkF m 85 (LS_RJsJsuuu r0 q1 (q1 - wm)) [(.int cp), (.ref rr)])) (fun t k => st38.trans k) ?_
      have G0_v39 := G0.keep K15 nin0
      have G0_v40 := G0_v39.keep K22 (ninS ne28 (ninS ne25 nin0))
      refine own_go (B := T38.setTop (mkF m 86 (LS_RJsJsuuu r0 q1 (q1 - wm)) [(.ref r0), (.int cp), (.ref rr)])) (fun t k => ?_) ?_
      · refine XS.aloadN X38.here hx rfl (hb hby d13_85) rfl rfl ?_
        exact k
      obtain ⟨T41, X41, e41, st41⟩ := getF X38 hx hZ hown (host := "") (Or.inl (hw _ (List.mem_of_getElem? (i := 82) rfl))) Via.refl e38 G0_v40 (g := (mkF m 86 (LS_RJsJsuuu r0 q1 (q1 - wm)) [(.ref r0), (.int cp), (.ref rr)])) rfl rfl (hb hby d13_86)
      refine own_go (B := T41.setTop (mkF m 89 (LS_RJsJsuuu r0 q1 (q1 - wm)) [(.ref da), (.int cp), (.ref rr)])) (fun t k => st41 _ k) ?_
      have Ed_v42 := Ed_v16.keep K22
      obtain ⟨cq43, kq43, q43a, q43b, q43c⟩ := isOf hZ e41 Ed_v42
      obtain ⟨_, _, ⟨T43, L43, k43, n43⟩, -, X43, ⟨Lc43, hQ43, l43, y43, z43⟩, st43⟩ := X41.virtualBack hx (y := (⟨"java/util/ArrayDeque", "size", "()I"⟩ : MethodName)) (z := (⟨"java/util/ArrayDeque", "size", "()I"⟩ : MethodName)) hown (mvT hZ (hw _ (List.mem_of_getElem? (i := 113) rfl))) (mvT hZ (hw _ (List.mem_of_getElem? (i := 114) rfl))) (notFace_of_selects (args := #[]) (mvT hZ (hw _ (List.mem_of_getElem? (i := 116) rfl)))) (mvT hZ (hw _ (List.mem_of_getElem? (i := 116) rfl))) (mvT hZ (hw _ (List.mem_of_getElem? (i := 115) rfl))) (by decide) (backOf (W := 2) (rmsiz11_0_2 l Z a0 hw [] da ea ka x0 o15 T22.heap n0 Z0_v37 Ed_v42 Fe22 Fh22 Ft22 Va22 Ov g_da g_ea) hZ (hw _ (List.mem_of_getElem? (i := 117) rfl)) (hw _ (List.mem_of_getElem? (i := 67) rfl)) (by decide) (by decide)) q43a q43c (g := (mkF m 89 (LS_RJsJsuuu r0 q1 (q1 - wm)) [(.ref da), (.int cp), (.ref rr)])) rfl (by rw [hml]; rfl) (Steps.refl _) (argsL := []) (rest := [(.int cp), (.ref rr)]) (lenOf pd___I rfl) rfl (by show 2 * 0 + _ ≤ _; exact Nat.le_of_eq rfl) (hb hby d13_89) (fun _ _ => ⟨rfl, e41, (by decide : 1 + 0 ≤ _), (by decide : 1 + 0 ≤ _)⟩)
      dsimp only [Pt.U, Pt.locs, Pt.cells, Pt.slots] at X43 l43 y43 z43 st43 hQ43
      subst l43 y43 z43
      obtain ⟨rfl, N43q, e43⟩ := hQ43
      have N43 := Fr.app N38 N43q
      refine own_go (B := T43.setTop (mkF m 92 (LS_RJsJsuuu r0 q1 (q1 - wm)) [(.int (2 : Int32)), (.int cp), (.ref rr)])) (fun t k => st43.trans k) ?_
      refine own_go (B := T43.setTop (mkF m 93 (LS_RJsJsuuu r0 q1 (q1 - wm)) [(.int (cp - (2 : Int32))), (.ref rr)])) (fun t k => ?_) ?_
      · refine XS.isub X43.here hx rfl (hb hby d13_92) rfl ?_
        exact k
      have S_ZERO_v44 := own_sta_keep S_ZERO K15 all0
      have S_ZERO_v45 := own_sta_keep S_ZERO_v44 K22 (allS (own_plain_E Ed_v16) (allS (own_plain_V P3_v20) all0))
      have Ez_v46 := Ez.keep K15
      have Ez_v47 := Ez_v46.keep K22
      have Fz_v48 := Fz.keep K15 nin0
      have ne50 : wz ≠ ea := Exa.neArv Ez_v47 Va22 (hw _ (List.mem_of_getElem? (i := 253) rfl))
      have ne51 : wz ≠ da := Exa.ne Ez Ed (by decide)
      have Fz_v49 := Fz_v48.keep K22 (ninS ne51 (ninS ne50 nin0))
      obtain ⟨_, _, ⟨T52, L52, k52, n52⟩, -, X52, hs52, hg52, ⟨Lc52, hQ52, l52, y52, z52⟩, st52⟩ := callSS X43 hx (y := (⟨"com/example/blend2/blend2/Decision", "admitted", "(Lcom/example/blend2/blend2/Rule;I)Lcom/example/blend2/blend2/Decision;"⟩ : MethodName)) hown (mvT hZ (hw _ (List.mem_of_getElem? (i := 155) rfl))) (mvT hZ (hw _ (List.mem_of_getElem? (i := 156) rfl))) (mvT hZ (hw _ (List.mem_of_getElem? (i := 157) rfl))) (mvT hZ (hw _ (List.mem_of_getElem? (i := 158) rfl))) (by decide) (backOfS (W := 0) (rmad2 l Z a0 hw [] rr (cp - (2 : Int32)) wz T22.heap n0 Z0_v37 S_ZERO_v45 Ez_v47 Fz_v49 (own_rem2 hc60_13 hc1)) hZ (hw _ (List.mem_of_getElem? (i := 158) rfl)) (hw _ (List.mem_of_getElem? (i := 157) rfl)) (by decide) (by decide)) (g := (mkF m 93 (LS_RJsJsuuu r0 q1 (q1 - wm)) [(.int (cp - (2 : Int32))), (.ref rr)])) rfl (by rw [hml]; rfl) (argsL := [(.ref rr), (.int (cp - (2 : Int32)))]) (rest := []) (lenOf pd__Lcom_example_blend2_blend2_Rule_I_Lcom_example_blend2_blend2_Decision_ rfl) rfl (by show 2 * 0 + _ ≤ _; exact Nat.le_of_eq rfl) (hb hby d13_93) (fun _ _ => ⟨rfl, e43, (by decide : 1 + 8 ≤ _), (by decide : 1 + 95 ≤ _)⟩)
      dsimp only [Pt.U, Pt.locs, Pt.cells, Pt.slots] at X52 l52 y52 z52 st52 hQ52 hs52 hg52
      subst l52 y52 z52
      have hk0_v53 := Nat.le_trans hk0 K15.1
      have hk0_v54 := Nat.le_trans hk0_v53 K22.1
      have hS52 : s.Since T52.vm T52.heap.size := foldS (s := s) (vm0 := s.vm) (T := T43) (U := T52) hS0 (by rw [e43]; exact hk0_v54) hs52 hg52
      have hZ52 : Z.Warmed39 (s.setVm T52.vm).vm := State.Warmed39.trans (t := s.setVm s.vm) hZ hs52.1
      have ho52 : (s.setVm T52.vm).vm.findClass "com/example/blend2/blend2/SlidingWindowLog" = some m.cls := by rw [show (s.setVm T52.vm).vm = T52.vm from rfl, hs52.1.alike.findClass]; exact hown
      obtain ⟨o52, rfl, N52q, K52⟩ := hQ52
      have N52 := Fr.app N43 N52q
      have hk52 : T52.heap.size ≤ T52.heap.size := Nat.le_refl _
      refine own_go (B := T52.setTop (mkF m 96 (LS_RJsJsuuu r0 q1 (q1 - wm)) [(.ref o52)])) (fun t k => st52.trans k) ?_
      refine own_go (B := T52.setTop (mkF m 139 (LS_RJsJsRuu r0 q1 (q1 - wm) o52) [(.ref o52)])) (fun t k => ?_) ?_
      · refine XS.astore X52.here hx rfl (hb hby d13_96) rfl rfl (l' := (LS_RJsJsRuu r0 q1 (q1 - wm) o52)) rfl ?_
        refine XS.goto X52.here hx rfl (pc0 := 98) (pc' := 137) rfl (hb hby d13_98) (by decide) (by decide) ?_
        show Steps p.tables e below (T52.setTop (mkF m 137 (LS_RJsJsRuu r0 q1 (q1 - wm) o52) [])) _
        refine XS.aload X52.here hx rfl (hb hby d13_137) rfl rfl ?_
        exact k
      obtain ⟨fs, hr, hrun, hended, hRW⟩ := Stand.leaveW (s := s) (vm₁ := T52.vm) X52 hS52 hk52 (v := some (.ref o52)) (fun h => by rw [Bd.returns] at h; cases h) (BodyLoose.notSynchronized Bd)
      refine ⟨_, _, ?_, hrun, hended, _, _, rfl, ?_, hRW.1, hRW.2.1, hRW.2.2.1, hRW.2.2.2.mono (by decide) (by decide)⟩
      · show Steps p.tables e below (T52.setTop (mkF m 139 (LS_RJsJsRuu r0 q1 (q1 - wm) o52) [(.ref o52)])) _
        exact retOut X52 hx Bd.returns rfl (Or.inr (Or.inr (Or.inr (Or.inr ⟨rfl, rfl, rfl⟩)))) (hb hby d13_139) hr
      · show QdecB Z r0 q1 da ea ka wm x0 v0 rr wz wc cc cp h0 n0 _ T52.heap _
        have Fe22_v55 := Fe22.keep K52 nin0
        have Fh22_v56 := Fh22.keep K52 nin0
        have Ft22_v57 := Ft22.keep K52 nin0
        have Va22_v58 := Va22.keep K52 nin0
        have Ef15_v59 := Ef15.keep K22
        have Ef15_v60 := Ef15_v59.keep K52
        have ne62 : o15 ≠ ea := Exa.neArv Ef15_v60 Va22_v58 (hw _ (List.mem_of_getElem? (i := 132) rfl))
        have ne63 : o15 ≠ da := Exa.ne Ef15 Ed_v16 (by decide)
        have Fs15_v61 := Fs15.keep K22 (ninS ne63 (ninS ne62 nin0))
        have Fs15_v64 := Fs15_v61.keep K52 nin0
        have K0_v65 := K0.trans K15 all0
        have K0_v66 := K0_v65.trans K22 (allS (Or.inl (List.mem_of_getElem? (i := 0) rfl)) (allS (Or.inl (List.mem_of_getElem? (i := 1) rfl)) all0))
        have K0_v67 := K0_v66.trans K52 all0
        exact ⟨o52, rfl, N52, K0_v67, Or.inr (Or.inl ⟨o15, hc32_8, hc60_13, Fe22_v55, Fh22_v56, Ft22_v57, Va22_v58, Ef15_v60, Fs15_v64⟩)⟩
    · refine own_go (B := T12.setTop (mkF m 102 (LS_RJsJsuuu r0 q1 (q1 - wm)) [(.ref r0)])) (fun t k => ?_) ?_
      · refine XS.icmpYes X12.here hx rfl (pc0 := 60) (pc' := 101) rfl (hb hby d13_60) rfl (flt hc60_13).2.1 (by decide) (by decide) ?_
        refine XS.aloadN X12.here hx rfl (hb hby d13_101) rfl rfl ?_
        exact k
      obtain ⟨T68, X68, e68, st68⟩ := getF X12 hx hZ hown (host := "") (Or.inl (hw _ (List.mem_of_getElem? (i := 82) rfl))) Via.refl e12 G0 (g := (mkF m 102 (LS_RJsJsuuu r0 q1 (q1 - wm)) [(.ref r0)])) rfl rfl (hb hby d13_102)
      refine own_go (B := T68.setTop (mkF m 105 (LS_RJsJsuuu r0 q1 (q1 - wm)) [(.ref da)])) (fun t k => st68 _ k) ?_
      obtain ⟨cq69, kq69, q69a, q69b, q69c⟩ := isOf hZ e68 Ed
      obtain ⟨_, _, ⟨T69, L69, k69, n69⟩, -, X69, ⟨Lc69, hQ69, l69, y69, z69⟩, st69⟩ := X68.virtualBack hx (y := (⟨"java/util/ArrayDeque", "peekFirst", "()Ljava/lang/Object;"⟩ : MethodName)) (z := (⟨"java/util/ArrayDeque", "peekFirst", "()Ljava/lang/Object;"⟩ : MethodName)) hown (mvT hZ (hw _ (List.mem_of_getElem? (i := 209) rfl))) (mvT hZ (hw _ (List.mem_of_getElem? (i := 210) rfl))) (notFace_of_selects (args := #[]) (mvT hZ (hw _ (List.mem_of_getElem? (i := 212) rfl)))) (mvT hZ (hw _ (List.mem_of_getElem? (i := 212) rfl))) (mvT hZ (hw _ (List.mem_of_getElem? (i := 211) rfl))) (by decide) (backOf (W := 0) (rmpeekFirst10_0_1 l Z a0 hw [] da ea ka x0 h0 n0 Z0 Ed P0 P1 P2 P3 Ov g_da g_ea) hZ (hw _ (List.mem_of_getElem? (i := 213) rfl)) (hw _ (List.mem_of_getElem? (i := 67) rfl)) (by decide) (by decide)) q69a q69c (g := (mkF m 105 (LS_RJsJsuuu r0 q1 (q1 - wm)) [(.ref da)])) rfl (by rw [hml]; rfl) (Steps.refl _) (argsL := []) (rest := []) (lenOf pd___Ljava_lang_Object_ rfl) rfl (by show 2 * 0 + _ ≤ _; exact Nat.le_of_eq rfl) (hb hby d13_105) (fun _ _ => ⟨rfl, e68, (by decide : 0 + 0 ≤ _), (by decide : 0 + 0 ≤ _)⟩)
      dsimp only [Pt.U, Pt.locs, Pt.cells, Pt.slots] at X69 l69 y69 z69 st69 hQ69
      subst l69 y69 z69
      obtain ⟨rfl, N69q, e69⟩ := hQ69
      have N69 := Fr.app N12 N69q
      refine own_go (B := T69.setTop (mkF m 108 (LS_RJsJsuuu r0 q1 (q1 - wm)) [(.ref x0)])) (fun t k => st69.trans k) ?_
      obtain ⟨T70, X70, e70, st70⟩ := castY X69 hx hZ hown (hw _ (List.mem_of_getElem? (i := 217) rfl)) e69 (Ins.self Ex0) (g := (mkF m 108 (LS_RJsJsuuu r0 q1 (q1 - wm)) [(.ref x0)])) rfl rfl (hb hby d13_108)
      refine own_go (B := T70.setTop (mkF m 111 (LS_RJsJsuuu r0 q1 (q1 - wm)) [(.ref x0)])) (fun t k => st70 _ k) ?_
      obtain ⟨cq71, kq71, q71a, q71b, q71c⟩ := isOf hZ e70 Ex0
      obtain ⟨_, _, ⟨T71, L71, k71, n71⟩, -, X71, ⟨Lc71, hQ71, l71, y71, z71⟩, st71⟩ := X70.virtualBack hx (y := (⟨"java/lang/Long", "longValue", "()J"⟩ : MethodName)) (z := (⟨"java/lang/Long", "longValue", "()J"⟩ : MethodName)) hown (mvT hZ (hw _ (List.mem_of_getElem? (i := 218) rfl))) (mvT hZ (hw _ (List.mem_of_getElem? (i := 219) rfl))) (notFace_of_selects (args := #[]) (mvT hZ (hw _ (List.mem_of_getElem? (i := 221) rfl)))) (mvT hZ (hw _ (List.mem_of_getElem? (i := 221) rfl))) (mvT hZ (hw _ (List.mem_of_getElem? (i := 220) rfl))) (by decide) (backOf (W := 0) (rmlov l Z a0 hw [] x0 v0 h0 n0 Z0 Fx0) hZ (hw _ (List.mem_of_getElem? (i := 222) rfl)) (hw _ (List.mem_of_getElem? (i := 128) rfl)) (by decide) (by decide)) q71a q71c (g := (mkF m 111 (LS_RJsJsuuu r0 q1 (q1 - wm)) [(.ref x0)])) rfl (by rw [hml]; rfl) (Steps.refl _) (argsL := []) (rest := []) (lenOf pd___J rfl) rfl (by show 2 * 0 + _ ≤ _; exact Nat.le_of_eq rfl) (hb hby d13_111) (fun _ _ => ⟨rfl, e70, (by decide : 0 + 0 ≤ _), (by decide : 0 + 0 ≤ _)⟩)
      dsimp only [Pt.U, Pt.locs, Pt.cells, Pt.slots] at X71 l71 y71 z71 st71 hQ71
      subst l71 y71 z71
      obtain ⟨rfl, N71q, e71⟩ := hQ71
      have N71 := Fr.app N69 N71q
      refine own_go (B := T71.setTop (mkF m 114 (LS_RJsJsuuu r0 q1 (q1 - wm)) [(.long v0)])) (fun t k => st71.trans k) ?_
      refine own_go (B := T71.setTop (mkF m 115 (LS_RJsJsuuu r0 q1 (q1 - wm)) [(.ref r0), (.long v0)])) (fun t k => ?_) ?_
      · refine XS.aloadN X71.here hx rfl (hb hby d13_114) rfl rfl ?_
        exact k
      obtain ⟨T72, X72, e72, st72⟩ := getF X71 hx hZ hown (host := "") (Or.inl (hw _ (List.mem_of_getElem? (i := 92) rfl))) Via.refl e71 G2 (g := (mkF m 115 (LS_RJsJsuuu r0 q1 (q1 - wm)) [(.ref r0), (.long v0)])) rfl rfl (hb hby d13_115)
      refine own_go (B := T72.setTop (mkF m 118 (LS_RJsJsuuu r0 q1 (q1 - wm)) [(.long wm), (.long v0)])) (fun t k => st72 _ k) ?_
      refine own_go (B := T72.setTop (mkF m 122 (LS_RJsJsuJs r0 q1 (q1 - wm) (v0 + wm)) [(.ref r0)])) (fun t k => ?_) ?_
      · refine XS.ladd X72.here hx rfl (hb hby d13_118) rfl ?_
        refine XS.lstore X72.here hx rfl (hb hby d13_119) rfl (l' := (LS_RJsJsuJs r0 q1 (q1 - wm) (v0 + wm))) rfl ?_
        show Steps p.tables e below (T72.setTop (mkF m 121 (LS_RJsJsuJs r0 q1 (q1 - wm) (v0 + wm)) [])) _
        refine XS.aloadN X72.here hx rfl (hb hby d13_121) rfl rfl ?_
        exact k
      obtain ⟨T73, X73, e73, st73⟩ := getF X72 hx hZ hown (host := "") (Or.inl (hw _ (List.mem_of_getElem? (i := 84) rfl))) Via.refl e72 G1 (g := (mkF m 122 (LS_RJsJsuJs r0 q1 (q1 - wm) (v0 + wm)) [(.ref r0)])) rfl rfl (hb hby d13_122)
      refine own_go (B := T73.setTop (mkF m 125 (LS_RJsJsuJs r0 q1 (q1 - wm) (v0 + wm)) [(.ref rr)])) (fun t k => st73 _ k) ?_
      refine own_go (B := T73.setTop (mkF m 129 (LS_RJsJsuJs r0 q1 (q1 - wm) (v0 + wm)) [(.long ((v0 + wm) - q1)), (.ref rr)])) (fun t k => ?_) ?_
      · refine XS.lload X73.here hx rfl (hb hby d13_125) rfl ?_
        refine XS.lloadN X73.here hx rfl (hb hby d13_127) rfl ?_
        show Steps p.tables e below (T73.setTop (mkF m 128 (LS_RJsJsuJs r0 q1 (q1 - wm) (v0 + wm)) [(.long q1), (.long (v0 + wm)), (.ref rr)])) _
        refine XS.lsub X73.here hx rfl (hb hby d13_128) rfl ?_
        exact k
      obtain ⟨_, _, ⟨T74, L74, k74, n74⟩, -, X74, ⟨Lc74, hQ74, l74, y74, z74⟩, st74⟩ := Jvm.LawKit.callS X73 hx (y := (⟨"java/time/Duration", "ofMillis", "(J)Ljava/time/Duration;"⟩ : MethodName)) hown (mvT hZ (hw _ (List.mem_of_getElem? (i := 244) rfl))) (mvT hZ (hw _ (List.mem_of_getElem? (i := 245) rfl))) (mvT hZ (hw _ (List.mem_of_getElem? (i := 160) rfl))) (mvT hZ (hw _ (List.mem_of_getElem? (i := 246) rfl))) (by decide) (backOf (W := 1) (rmdum l Z a0 hw [] ((v0 + wm) - q1) h0 n0 Z0 (own_refl hw1 hv1 hv12 hv2 hc32_8).1 (own_refl hw1 hv1 hv12 hv2 hc32_8).2) hZ (hw _ (List.mem_of_getElem? (i := 246) rfl)) (hw _ (List.mem_of_getElem? (i := 160) rfl)) (by decide) (by decide)) (g := (mkF m 129 (LS_RJsJsuJs r0 q1 (q1 - wm) (v0 + wm)) [(.long ((v0 + wm) - q1)), (.ref rr)])) rfl (by rw [hml]; rfl) (argsL := [(.long ((v0 + wm) - q1))]) (rest := [(.ref rr)]) (lenOf pd__J_Ljava_time_Duration_ rfl) rfl (by show 2 * 0 + _ ≤ _; exact Nat.le_of_eq rfl) (hb hby d13_129) (fun _ _ => ⟨rfl, e73, (by decide : 0 + 1 ≤ _), (by decide : 0 + 2 ≤ _)⟩)
      dsimp only [Pt.U, Pt.locs, Pt.cells, Pt.slots] at X74 l74 y74 z74 st74 hQ74
      subst l74 y74 z74
      obtain ⟨o74, rfl, N74q, hfr74, K74, Ef74, Fs74⟩ := hQ74
      have N74 := Fr.app N71 N74q
      have g_o74 : n0 ≤ o74 := Nat.le_trans Z0 hfr74
      have sz_o74 : h0.size ≤ o74 := Nat.le_trans K0.1 hfr74
      refine own_go (B := T74.setTop (mkF m 132 (LS_RJsJsuJs r0 q1 (q1 - wm) (v0 + wm)) [(.ref o74), (.ref rr)])) (fun t k => st74 _ k) ?_
      have Z0_v75 := Nat.le_trans Z0 K74.1
      have S_ZERO_v76 := own_sta_keep S_ZERO K74 all0
      have Ez_v77 := Ez.keep K74
      have Fz_v78 := Fz.keep K74 nin0
      obtain ⟨_, _, ⟨T79, L79, k79, n79⟩, -, X79, hs79, hg79, ⟨Lc79, hQ79, l79, y79, z79⟩, st79⟩ := callSS X74 hx (y := (⟨"com/example/blend2/blend2/Decision", "refused", "(Lcom/example/blend2/blend2/Rule;Ljava/time/Duration;)Lcom/example/blend2/blend2/Decision;"⟩ : MethodName)) hown (mvT hZ (hw _ (List.mem_of_getElem? (i := 261) rfl))) (mvT hZ (hw _ (List.mem_of_getElem? (i := 262) rfl))) (mvT hZ (hw _ (List.mem_of_getElem? (i := 157) rfl))) (mvT hZ (hw _ (List.mem_of_getElem? (i := 263) rfl))) (by decide) (backOfS (W := 0) (rmref l Z a0 hw [] rr o74 wz (((v0 + wm) - q1) / (1000 : Int64)) T74.heap n0 Z0_v75 S_ZERO_v76 Ez_v77 Fz_v78 Ef74 Fs74 (own_ms (own_refl hw1 hv1 hv12 hv2 hc32_8).1 (own_refl hw1 hv1 hv12 hv2 hc32_8).2).2.2) hZ (hw _ (List.mem_of_getElem? (i := 263) rfl)) (hw _ (List.mem_of_getElem? (i := 157) rfl)) (by decide) (by decide)) (g := (mkF m 132 (LS_RJsJsuJs r0 q1 (q1 - wm) (v0 + wm)) [(.ref o74), (.ref rr)])) rfl (by rw [hml]; rfl) (argsL := [(.ref rr), (.ref o74)]) (rest := []) (lenOf pd__Lcom_example_blend2_blend2_Rule_Ljava_time_Duration__Lcom_example_blend2_blend2_Decision_ rfl) rfl (by show 2 * 0 + _ ≤ _; exact Nat.le_of_eq rfl) (hb hby d13_132) (fun _ _ => ⟨rfl, rfl, (by decide : 1 + 8 ≤ _), (by decide : 2 + 95 ≤ _)⟩)
      dsimp only [Pt.U, Pt.locs, Pt.cells, Pt.slots] at X79 l79 y79 z79 st79 hQ79 hs79 hg79
      subst l79 y79 z79
      have hk0_v80 := Nat.le_trans hk0 K74.1
      have hS79 : s.Since T79.vm T79.heap.size := foldS (s := s) (vm0 := s.vm) (T := T74) (U := T79) hS0 hk0_v80 hs79 hg79
      have hZ79 : Z.Warmed39 (s.setVm T79.vm).vm := State.Warmed39.trans (t := s.setVm s.vm) hZ hs79.1
      have ho79 : (s.setVm T79.vm).vm.findClass "com/example/blend2/blend2/SlidingWindowLog" = some m.cls := by rw [show (s.setVm T79.vm).vm = T79.vm from rfl, hs79.1.alike.findClass]; exact hown
      obtain ⟨o79, rfl, N79q, K79⟩ := hQ79
      have N79 := Fr.app N74 N79q
      have hk79 : T79.heap.size ≤ T79.heap.size := Nat.le_refl _
      refine own_go (B := T79.setTop (mkF m 135 (LS_RJsJsuJs r0 q1 (q1 - wm) (v0 + wm)) [(.ref o79)])) (fun t k => st79.trans k) ?_
      refine own_go (B := T79.setTop (mkF m 139 (LS_RJsJsRJs r0 q1 (q1 - wm) o79 (v0 + wm)) [(.ref o79)])) (fun t k => ?_) ?_
      · refine XS.astore X79.here hx rfl (hb hby d13_135) rfl rfl (l' := (LS_RJsJsRJs r0 q1 (q1 - wm) o79 (v0 + wm))) rfl ?_
        refine XS.aload X79.here hx rfl (hb hby d13_137) rfl rfl ?_
        exact k
      obtain ⟨fs, hr, hrun, hended, hRW⟩ := Stand.leaveW (s := s) (vm₁ := T79.vm) X79 hS79 hk79 (v := some (.ref o79)) (fun h => by rw [Bd.returns] at h; cases h) (BodyLoose.notSynchronized Bd)
      refine ⟨_, _, ?_, hrun, hended, _, _, rfl, ?_, hRW.1, hRW.2.1, hRW.2.2.1, hRW.2.2.2.mono (by decide) (by decide)⟩
      · show Steps p.tables e below (T79.setTop (mkF m 139 (LS_RJsJsRJs r0 q1 (q1 - wm) o79 (v0 + wm)) [(.ref o79)])) _
        exact retOut X79 hx Bd.returns rfl (Or.inr (Or.inr (Or.inr (Or.inr ⟨rfl, rfl, rfl⟩)))) (hb hby d13_139) hr
      · show QdecB Z r0 q1 da ea ka wm x0 v0 rr wz wc cc cp h0 n0 _ T79.heap _
        have P0_v81 := P0.keep K74 nin0
        have P0_v82 := P0_v81.keep K79 nin0
        have P1_v83 := P1.keep K74 nin0
        have P1_v84 := P1_v83.keep K79 nin0
        have P2_v85 := P2.keep K74 nin0
        have P2_v86 := P2_v85.keep K79 nin0
        have P3_v87 := P3.keep K74 nin0
        have P3_v88 := P3_v87.keep K79 nin0
        have Ex0_v89 := Ex0.keep K74
        have Ex0_v90 := Ex0_v89.keep K79
        have Fx0_v91 := Fx0.keep K74 nin0
        have Fx0_v92 := Fx0_v91.keep K79 nin0
        have K0_v93 := K0.trans K74 all0
        have K0_v94 := K0_v93.trans K79 all0
        exact ⟨o79, rfl, N79, K0_v94, Or.inr (Or.inr ⟨hc32_8, hc60_13, P0_v82, P1_v84, P2_v86, P3_v88⟩)⟩
  · refine own_go (B := T7.setTop (mkF m 36 (LS_RJsJsuuu r0 q1 (q1 - wm)) [(.ref r0)])) (fun t k => ?_) ?_
    · refine XS.ifNo X7.here hx rfl (hb hby d13_32) rfl ((if0 _ _).trans (flt (fun q => hc32_8 ((lw_gt v0 (q1 - wm)).mp q))).2.2.1) ?_
      refine XS.aloadN X7.here hx rfl (hb hby d13_35) rfl rfl ?_
      exact k
    obtain ⟨T95, X95, e95, st95⟩ := getF X7 hx hZ hown (host := "") (Or.inl (hw _ (List.mem_of_getElem? (i := 82) rfl))) Via.refl e7 G0 (g := (mkF m 36 (LS_RJsJsuuu r0 q1 (q1 - wm)) [(.ref r0)])) rfl rfl (hb hby d13_36)
    refine own_go (B := T95.setTop (mkF m 39 (LS_RJsJsuuu r0 q1 (q1 - wm)) [(.ref da)])) (fun t k => st95 _ k) ?_
    obtain ⟨cq96, kq96, q96a, q96b, q96c⟩ := isOf hZ e95 Ed
    obtain ⟨_, _, ⟨T96, L96, k96, n96⟩, -, X96, ⟨Lc96, hQ96, l96, y96, z96⟩, st96⟩ := X95.virtualBack hx (y := (⟨"java/util/ArrayDeque", "removeFirst", "()Ljava/lang/Object;"⟩ : MethodName)) (z := (⟨"java/util/ArrayDeque", "removeFirst", "()Ljava/lang/Object;"⟩ : MethodName)) hown (mvT hZ (hw _ (List.mem_of_getElem? (i := 223) rfl))) (mvT hZ (hw _ (List.mem_of_getElem? (i := 224) rfl))) (notFace_of_selects (args := #[]) (mvT hZ (hw _ (List.mem_of_getElem? (i := 226) rfl)))) (mvT hZ (hw _ (List.mem_of_getElem? (i := 226) rfl))) (mvT hZ (hw _ (List.mem_of_getElem? (i := 225) rfl))) (by decide) (backOf (W := 0) (rmrmvf l Z a0 hw [] da ea ka x0 h0 n0 Z0 Ed P0 P1 P2 P3 Ov g_da g_ea) hZ (hw _ (List.mem_of_getElem? (i := 227) rfl)) (hw _ (List.mem_of_getElem? (i := 67) rfl)) (by decide) (by decide)) q96a q96c (g := (mkF m 39 (LS_RJsJsuuu r0 q1 (q1 - wm)) [(.ref da)])) rfl (by rw [hml]; rfl) (Steps.refl _) (argsL := []) (rest := []) (lenOf pd___Ljava_lang_Object_ rfl) rfl (by show 2 * 0 + _ ≤ _; exact Nat.le_of_eq rfl) (hb hby d13_39) (fun _ _ => ⟨rfl, e95, (by decide : 0 + 0 ≤ _), (by decide : 0 + 0 ≤ _)⟩)
    dsimp only [Pt.U, Pt.locs, Pt.cells, Pt.slots] at X96 l96 y96 z96 st96 hQ96
    subst l96 y96 z96
    obtain ⟨rfl, N96q, K96, Fe96, Fh96, Ft96, Va96⟩ := hQ96
    have N96 := Fr.app N7 N96q
    refine own_go (B := T96.setTop (mkF m 42 (LS_RJsJsuuu r0 q1 (q1 - wm)) [(.ref x0)])) (fun t k => st96.trans k) ?_
    have E0_v99 := E0.keep K96
    have ne98 : r0 ≠ ea := Exa.neArv E0_v99 Va96 (hw _ (List.mem_of_getElem? (i := 9) rfl))
    have ne100 : r0 ≠ da := Exa.ne E0 Ed (by decide)
    have G0_v97 := G0.keep K96 (ninS ne100 (ninS ne98 nin0))
    refine own_go (B := T96.setTop (mkF m 8 (LS_RJsJsuuu r0 q1 (q1 - wm)) [(.ref r0)])) (fun t k => ?_) ?_
    · refine XS.pop X96.here hx rfl (hb hby d13_42) rfl rfl ?_
      refine XS.goto X96.here hx rfl (pc0 := 43) (pc' := 7) rfl (hb hby d13_43) (by decide) (by decide) ?_
      show Steps p.tables e below (T96.setTop (mkF m 7 (LS_RJsJsuuu r0 q1 (q1 - wm)) [])) _
      refine XS.aloadN X96.here hx rfl (hb hby d13_7) rfl rfl ?_
      exact k
    obtain ⟨T101, X101, e101, st101⟩ := getF X96 hx hZ hown (host := "") (Or.inl (hw _ (List.mem_of_getElem? (i := 82) rfl))) Via.refl rfl G0_v97 (g := (mkF m 8 (LS_RJsJsuuu r0 q1 (q1 - wm)) [(.ref r0)])) rfl rfl (hb hby d13_8)
    refine own_go (B := T101.setTop (mkF m 11 (LS_RJsJsuuu r0 q1 (q1 - wm)) [(.ref da)])) (fun t k => st101 _ k) ?_
    have Z0_v102 := Nat.le_trans Z0 K96.1
    have Ed_v104 := Ed.keep K96
    obtain ⟨cq103, kq103, q103a, q103b, q103c⟩ := isOf hZ e101 Ed_v104
    obtain ⟨_, _, ⟨T103, L103, k103, n103⟩, -, X103, ⟨Lc103, hQ103, l103, y103, z103⟩, st103⟩ := X101.virtualBack hx (y := (⟨"java/util/ArrayDeque", "isEmpty", "()Z"⟩ : MethodName)) (z := (⟨"java/util/ArrayDeque", "isEmpty", "()Z"⟩ : MethodName)) hown (mvT hZ (hw _ (List.mem_of_getElem? (i := 99) rfl))) (mvT hZ (hw _ (List.mem_of_getElem? (i := 100) rfl))) (notFace_of_selects (args := #[]) (mvT hZ (hw _ (List.mem_of_getElem? (i := 102) rfl)))) (mvT hZ (hw _ (List.mem_of_getElem? (i := 102) rfl))) (mvT hZ (hw _ (List.mem_of_getElem? (i := 101) rfl))) (by decide) (backOf (W := 0) (rmemp l Z a0 hw [] da (1 : Int32) (1 : Int32) T96.heap n0 Z0_v102 Fh96 Ft96) hZ (hw _ (List.mem_of_getElem? (i := 103) rfl)) (hw _ (List.mem_of_getElem? (i := 67) rfl)) (by decide) (by decide)) q103a q103c (g := (mkF m 11 (LS_RJsJsuuu r0 q1 (q1 - wm)) [(.ref da)])) rfl (by rw [hml]; rfl) (Steps.refl _) (argsL := []) (rest := []) (lenOf pd___Z rfl) rfl (by show 2 * 0 + _ ≤ _; exact Nat.le_of_eq rfl) (hb hby d13_11) (fun _ _ => ⟨rfl, e101, (by decide : 0 + 0 ≤ _), (by decide : 0 + 0 ≤ _)⟩)
    dsimp only [Pt.U, Pt.locs, Pt.cells, Pt.slots] at X103 l103 y103 z103 st103 hQ103
    subst l103 y103 z103
    obtain ⟨rfl, N103q, e103⟩ := hQ103
    have N103 := Fr.app N96 N103q
    refine own_go (B := T103.setTop (mkF m 14 (LS_RJsJsuuu r0 q1 (q1 - wm)) [(.int (if (1 : Int32) = (1 : Int32) then (1 : Int32) else (0 : Int32)))])) (fun t k => st103.trans k) ?_
    rw [show (if (1 : Int32) = (1 : Int32) then (1 : Int32) else (0 : Int32)) = (1 : Int32) from by decide]
    refine own_go (B := T103.setTop (mkF m 47 (LS_RJsJsuuu r0 q1 (q1 - wm)) [(.ref r0)])) (fun t k => ?_) ?_
    · refine XS.ifYes X103.here hx rfl (pc0 := 14) (pc' := 46) rfl (hb hby d13_14) rfl ((if0 _ _).trans (feq (by decide : ¬ ((1 : Int32) = (0 : Int32)))).2) (by decide) (by decide) ?_
      refine XS.aloadN X103.here hx rfl (hb hby d13_46) rfl rfl ?_
      exact k
    obtain ⟨T105, X105, e105, st105⟩ := getF X103 hx hZ hown (host := "") (Or.inl (hw _ (List.mem_of_getElem? (i := 82) rfl))) Via.refl e103 G0_v97 (g := (mkF m 47 (LS_RJsJsuuu r0 q1 (q1 - wm)) [(.ref r0)])) rfl rfl (hb hby d13_47)
    refine own_go (B := T105.setTop (mkF m 50 (LS_RJsJsuuu r0 q1 (q1 - wm)) [(.ref da)])) (fun t k => st105 _ k) ?_
    obtain ⟨cq106, kq106, q106a, q106b, q106c⟩ := isOf hZ e105 Ed_v104
    obtain ⟨_, _, ⟨T106, L106, k106, n106⟩, -, X106, ⟨Lc106, hQ106, l106, y106, z106⟩, st106⟩ := X105.virtualBack hx (y := (⟨"java/util/ArrayDeque", "size", "()I"⟩ : MethodName)) (z := (⟨"java/util/ArrayDeque", "size", "()I"⟩ : MethodName)) hown (mvT hZ (hw _ (List.mem_of_getElem? (i := 113) rfl))) (mvT hZ (hw _ (List.mem_of_getElem? (i := 114) rfl))) (notFace_of_selects (args := #[]) (mvT hZ (hw _ (List.mem_of_getElem? (i := 116) rfl)))) (mvT hZ (hw _ (List.mem_of_getElem? (i := 116) rfl))) (mvT hZ (hw _ (List.mem_of_getElem? (i := 115) rfl))) (by decide) (backOf (W := 0) (rmsiz00_1_1 l Z a0 hw [] da ea ka  T96.heap n0 Z0_v102 Ed_v104 Fe96 Fh96 Ft96 Va96 Ov g_da g_ea) hZ (hw _ (List.mem_of_getElem? (i := 117) rfl)) (hw _ (List.mem_of_getElem? (i := 67) rfl)) (by decide) (by decide)) q106a q106c (g := (mkF m 50 (LS_RJsJsuuu r0 q1 (q1 - wm)) [(.ref da)])) rfl (by rw [hml]; rfl) (Steps.refl _) (argsL := []) (rest := []) (lenOf pd___I rfl) rfl (by show 2 * 0 + _ ≤ _; exact Nat.le_of_eq rfl) (hb hby d13_50) (fun _ _ => ⟨rfl, e105, (by decide : 0 + 0 ≤ _), (by decide : 0 + 0 ≤ _)⟩)
    dsimp only [Pt.U, Pt.locs, Pt.cells, Pt.slots] at X106 l106 y106 z106 st106 hQ106
    subst l106 y106 z106
    obtain ⟨rfl, N106q, e106⟩ := hQ106
    have N106 := Fr.app N103 N106q
    refine own_go (B := T106.setTop (mkF m 53 (LS_RJsJsuuu r0 q1 (q1 - wm)) [(.int (0 : Int32))])) (fun t k => st106.trans k) ?_
    have G1_v107 := G1.keep K96 (ninS ne100 (ninS ne98 nin0))
    refine own_go (B := T106.setTop (mkF m 54 (LS_RJsJsuuu r0 q1 (q1 - wm)) [(.ref r0), (.int (0 : Int32))])) (fun t k => ?_) ?_
    · refine XS.aloadN X106.here hx rfl (hb hby d13_53) rfl rfl ?_
      exact k
    obtain ⟨T108, X108, e108, st108⟩ := getF X106 hx hZ hown (host := "") (Or.inl (hw _ (List.mem_of_getElem? (i := 84) rfl))) Via.refl e106 G1_v107 (g := (mkF m 54 (LS_RJsJsuuu r0 q1 (q1 - wm)) [(.ref r0), (.int (0 : Int32))])) rfl rfl (hb hby d13_54)
    refine own_go (B := T108.setTop (mkF m 57 (LS_RJsJsuuu r0 q1 (q1 - wm)) [(.ref rr), (.int (0 : Int32))])) (fun t k => st108 _ k) ?_
    have Er_v111 := Er.keep K96
    have ne110 : rr ≠ ea := Exa.neArv Er_v111 Va96 (hw _ (List.mem_of_getElem? (i := 12) rfl))
    have ne112 : rr ≠ da := Exa.ne Er Ed (by decide)
    have Fc_v109 := Fc.keep K96 (ninS ne112 (ninS ne110 nin0))
    obtain ⟨cq113, kq113, q113a, q113b, q113c⟩ := isOf hZ e108 Er_v111
    obtain ⟨_, _, ⟨T113, L113, k113, n113⟩, -, X113, ⟨Lc113, hQ113, l113, y113, z113⟩, st113⟩ := X108.virtualBack hx (y := (⟨"com/example/blend2/blend2/Rule", "capacity", "()I"⟩ : MethodName)) (z := (⟨"com/example/blend2/blend2/Rule", "capacity", "()I"⟩ : MethodName)) hown (mvT hZ (hw _ (List.mem_of_getElem? (i := 121) rfl))) (mvT hZ (hw _ (List.mem_of_getElem? (i := 122) rfl))) (notFace_of_selects (args := #[]) (mvT hZ (hw _ (List.mem_of_getElem? (i := 124) rfl)))) (mvT hZ (hw _ (List.mem_of_getElem? (i := 124) rfl))) (mvT hZ (hw _ (List.mem_of_getElem? (i := 123) rfl))) (by decide) (backOf (W := 1) (rmgcapacity l Z a0 hw [] rr cp T96.heap n0 Z0_v102 Fc_v109) hZ (hw _ (List.mem_of_getElem? (i := 125) rfl)) (hw _ (List.mem_of_getElem? (i := 13) rfl)) (by decide) (by decide)) q113a q113c (g := (mkF m 57 (LS_RJsJsuuu r0 q1 (q1 - wm)) [(.ref rr), (.int (0 : Int32))])) rfl (by rw [hml]; rfl) (Steps.refl _) (argsL := []) (rest := [(.int (0 : Int32))]) (lenOf pd___I rfl) rfl (by show 2 * 0 + _ ≤ _; exact Nat.le_of_eq rfl) (hb hby d13_57) (fun _ _ => ⟨rfl, e108, (by decide : 0 + 0 ≤ _), (by decide : 0 + 0 ≤ _)⟩)
    dsimp only [Pt.U, Pt.locs, Pt.cells, Pt.slots] at X113 l113 y113 z113 st113 hQ113
    subst l113 y113 z113
    obtain ⟨rfl, N113q, e113⟩ := hQ113
    have N113 := Fr.app N106 N113q
    refine own_go (B := T113.setTop (mkF m 60 (LS_RJsJsuuu r0 q1 (q1 - wm)) [(.int cp), (.int (0 : Int32))])) (fun t k => st113.trans k) ?_
    refine own_go (B := T113.setTop (mkF m 64 (LS_RJsJsuuu r0 q1 (q1 - wm)) [(.ref r0)])) (fun t k => ?_) ?_
    · refine XS.icmpNo X113.here hx rfl (hb hby d13_60) rfl (tlt (own_cp hc1)).2.1 ?_
      refine XS.aloadN X113.here hx rfl (hb hby d13_63) rfl rfl ?_
      exact k
    obtain ⟨T114, X114, e114, st114⟩ := getF X113 hx hZ hown (host := "") (Or.inl (hw _ (List.mem_of_getElem? (i := 82) rfl))) Via.refl e113 G0_v97 (g := (mkF m 64 (LS_RJsJsuuu r0 q1 (q1 - wm)) [(.ref r0)])) rfl rfl (hb hby d13_64)
    refine own_go (B := T114.setTop (mkF m 67 (LS_RJsJsuuu r0 q1 (q1 - wm)) [(.ref da)])) (fun t k => st114 _ k) ?_
    refine own_go (B := T114.setTop (mkF m 68 (LS_RJsJsuuu r0 q1 (q1 - wm)) [(.long q1), (.ref da)])) (fun t k => ?_) ?_
    · refine XS.lloadN X114.here hx rfl (hb hby d13_67) rfl ?_
      exact k
    have OL_v115 := Old.keep OL K96 (allS g_da (allS g_ea all0))
    have S_cache_v116 := own_sta_keep S_cache K96 (allS (own_plain_E Ed) (allS (own_plain_V P3) all0))
    obtain ⟨_, _, ⟨T117, L117, k117, n117⟩, -, X117, ⟨Lc117, hQ117, l117, y117, z117⟩, st117⟩ := Jvm.LawKit.callS X114 hx (y := (⟨"java/lang/Long", "valueOf", "(J)Ljava/lang/Long;"⟩ : MethodName)) hown (mvT hZ (hw _ (List.mem_of_getElem? (i := 126) rfl))) (mvT hZ (hw _ (List.mem_of_getElem? (i := 127) rfl))) (mvT hZ (hw _ (List.mem_of_getElem? (i := 128) rfl))) (mvT hZ (hw _ (List.mem_of_getElem? (i := 129) rfl))) (by decide) (backOf (W := 1) (rmvof l Z a0 hw [] q1 wc cc T96.heap n0 Z0_v102 OL_v115 BX S_cache_v116) hZ (hw _ (List.mem_of_getElem? (i := 129) rfl)) (hw _ (List.mem_of_getElem? (i := 128) rfl)) (by decide) (by decide)) (g := (mkF m 68 (LS_RJsJsuuu r0 q1 (q1 - wm)) [(.long q1), (.ref da)])) rfl (by rw [hml]; rfl) (argsL := [(.long q1)]) (rest := [(.ref da)]) (lenOf pd__J_Ljava_lang_Long_ rfl) rfl (by show 2 * 0 + _ ≤ _; exact Nat.le_of_eq rfl) (hb hby d13_68) (fun _ _ => ⟨rfl, e114, (by decide : 0 + 1 ≤ _), (by decide : 0 + 1 ≤ _)⟩)
    dsimp only [Pt.U, Pt.locs, Pt.cells, Pt.slots] at X117 l117 y117 z117 st117 hQ117
    subst l117 y117 z117
    obtain ⟨o117, rfl, N117q, K117, Ef117, Fs117⟩ := hQ117
    have N117 := Fr.app N113 N117q
    refine own_go (B := T117.setTop (mkF m 71 (LS_RJsJsuuu r0 q1 (q1 - wm)) [(.ref o117), (.ref da)])) (fun t k => st117 _ k) ?_
    have Ed_v118 := Ed_v104.keep K117
    have Fe96_v119 := Fe96.keep K117 nin0
    have Fh96_v120 := Fh96.keep K117 nin0
    have Ft96_v121 := Ft96.keep K117 nin0
    have Va96_v122 := Va96.keep K117 nin0
    have Z0_v123 := Nat.le_trans Z0_v102 K117.1
    obtain ⟨cq124, kq124, q124a, q124b, q124c⟩ := isOf hZ rfl Ed_v118
    obtain ⟨_, _, ⟨T124, L124, k124, n124⟩, -, X124, ⟨Lc124, hQ124, l124, y124, z124⟩, st124⟩ := X117.virtualBack hx (y := (⟨"java/util/ArrayDeque", "addLast", "(Ljava/lang/Object;)V"⟩ : MethodName)) (z := (⟨"java/util/ArrayDeque", "addLast", "(Ljava/lang/Object;)V"⟩ : MethodName)) hown (mvT hZ (hw _ (List.mem_of_getElem? (i := 146) rfl))) (mvT hZ (hw _ (List.mem_of_getElem? (i := 147) rfl))) (notFace_of_selects (args := #[]) (mvT hZ (hw _ (List.mem_of_getElem? (i := 149) rfl)))) (mvT hZ (hw _ (List.mem_of_getElem? (i := 149) rfl))) (mvT hZ (hw _ (List.mem_of_getElem? (i := 148) rfl))) (by decide) (backOf (W := 0) (rmaddl00_1_1 l Z a0 hw [] da o117 ea ka  T117.heap n0 Z0_v123 Ed_v118 Fe96_v119 Fh96_v120 Ft96_v121 Va96_v122 Ov g_da g_ea Ef117) hZ (hw _ (List.mem_of_getElem? (i := 150) rfl)) (hw _ (List.mem_of_getElem? (i := 67) rfl)) (by decide) (by decide)) q124a q124c (g := (mkF m 71 (LS_RJsJsuuu r0 q1 (q1 - wm)) [(.ref o117), (.ref da)])) rfl (by rw [hml]; rfl) (Steps.refl _) (argsL := [(.ref o117)]) (rest := []) (lenOf pd__Ljava_lang_Object__V rfl) rfl (by show 2 * 0 + _ ≤ _; exact Nat.le_of_eq rfl) (hb hby d13_71) (fun _ _ => ⟨rfl, rfl, (by decide : 1 + 0 ≤ _), (by decide : 1 + 0 ≤ _)⟩)
    dsimp only [Pt.U, Pt.locs, Pt.cells, Pt.slots] at X124 l124 y124 z124 st124 hQ124
    subst l124 y124 z124
    obtain ⟨rfl, N124q, K124, Fe124, Fh124, Ft124, Va124⟩ := hQ124
    have N124 := Fr.app N117 N124q
    refine own_go (B := T124.setTop (mkF m 74 (LS_RJsJsuuu r0 q1 (q1 - wm)) [])) (fun t k => st124.trans k) ?_
    have G1_v125 := G1_v107.keep K117 nin0
    have G1_v126 := G1_v125.keep K124 (ninS ne100 (ninS ne98 nin0))
    refine own_go (B := T124.setTop (mkF m 75 (LS_RJsJsuuu r0 q1 (q1 - wm)) [(.ref r0)])) (fun t k => ?_) ?_
    · refine XS.aloadN X124.here hx rfl (hb hby d13_74) rfl rfl ?_
      exact k
    obtain ⟨T127, X127, e127, st127⟩ := getF X124 hx hZ hown (host := "") (Or.inl (hw _ (List.mem_of_getElem? (i := 84) rfl))) Via.refl rfl G1_v126 (g := (mkF m 75 (LS_RJsJsuuu r0 q1 (q1 - wm)) [(.ref r0)])) rfl rfl (hb hby d13_75)
    refine own_go (B := T127.setTop (mkF m 78 (LS_RJsJsuuu r0 q1 (q1 - wm)) [(.ref rr)])) (fun t k => st127 _ k) ?_
    refine own_go (B := T127.setTop (mkF m 79 (LS_RJsJsuuu r0 q1 (q1 - wm)) [(.ref r0), (.ref rr)])) (fun t k => ?_) ?_
    · refine XS.aloadN X127.here hx rfl (hb hby d13_78) rfl rfl ?_
      exact k
    obtain ⟨T128, X128, e128, st128⟩ := getF X127 hx hZ hown (host := "") (Or.inl (hw _ (List.mem_of_getElem? (i := 84) rfl))) Via.refl e127 G1_v126 (g := (mkF m 79 (LS_RJsJsuuu r0 q1 (q1 - wm)) [(.ref r0), (.ref rr)])) rfl rfl (hb hby d13_79)
    refine own_go (B := T128.setTop (mkF m 82 (LS_RJsJsuuu r0 q1 (q1 - wm)) [(.ref rr), (.ref rr)])) (fun t k => st128 _ k) ?_
    have Fc_v129 := Fc_v109.keep K117 nin0
    have Fc_v130 := Fc_v129.keep K124 (ninS ne112 (ninS ne110 nin0))
    have Z0_v131 := Nat.le_trans Z0_v123 K124.1
    have Er_v133 := Er_v111.keep K117
    have Er_v134 := Er_v133.keep K124
    obtain ⟨cq132, kq132, q132a, q132b, q132c⟩ := isOf hZ e128 Er_v134
    obtain ⟨_, _, ⟨T132, L132, k132, n132⟩, -, X132, ⟨Lc132, hQ132, l132, y132, z132⟩, st132⟩ := X128.virtualBack hx (y := (⟨"com/example/blend2/blend2/Rule", "capacity", "()I"⟩ : MethodName)) (z := (⟨"com/example/blend2/blend2/Rule", "capacity", "()I"⟩ : MethodName)) hown (mvT hZ (hw _ (List.mem_of_getElem? (i := 121) rfl))) (mvT hZ (hw _ (List.mem_of_getElem? (i := 122) rfl))) (notFace_of_selects (args := #[]) (mvT hZ (hw _ (List.mem_of_getElem? (i := 124) rfl)))) (mvT hZ (hw _ (List.mem_of_getElem? (i := 124) rfl))) (mvT hZ (hw _ (List.mem_of_getElem? (i := 123) rfl))) (by decide) (backOf (W := 1) (rmgcapacity l Z a0 hw [] rr cp T124.heap n0 Z0_v131 Fc_v130) hZ (hw _ (List.mem_of_getElem? (i := 125) rfl)) (hw _ (List.mem_of_getElem? (i := 13) rfl)) (by decide) (by decide)) q132a q132c (g := (mkF m 82 (LS_RJsJsuuu r0 q1 (q1 - wm)) [(.ref rr), (.ref rr)])) rfl (by rw [hml]; rfl) (Steps.refl _) (argsL := []) (rest := [(.ref rr)]) (lenOf pd___I rfl) rfl (by show 2 * 0 + _ ≤ _; exact Nat.le_of_eq rfl) (hb hby d13_82) (fun _ _ => ⟨rfl, e128, (by decide : 1 + 0 ≤ _), (by decide : 1 + 0 ≤ _)⟩)
    dsimp only [Pt.U, Pt.locs, Pt.cells, Pt.slots] at X132 l132 y132 z132 st132 hQ132
    subst l132 y132 z132
    obtain ⟨rfl, N132q, e132⟩ := hQ132
    have N132 := Fr.app N124 N132q
    refine own_go (B := T132.setTop (mkF m 85 (LS_RJsJsuuu r0 q1 (q1 - wm)) [(.int cp), (.ref rr)])) (fun t k => st132.trans k) ?_
    have G0_v135 := G0_v97.keep K117 nin0
    have G0_v136 := G0_v135.keep K124 (ninS ne100 (ninS ne98 nin0))
    refine own_go (B := T132.setTop (mkF m 86 (LS_RJsJsuuu r0 q1 (q1 - wm)) [(.ref r0), (.int cp), (.ref rr)])) (fun t k => ?_) ?_
    · refine XS.aloadN X132.here hx rfl (hb hby d13_85) rfl rfl ?_
      exact k
    obtain ⟨T137, X137, e137, st137⟩ := getF X132 hx hZ hown (host := "") (Or.inl (hw _ (List.mem_of_getElem? (i := 82) rfl))) Via.refl e132 G0_v136 (g := (mkF m 86 (LS_RJsJsuuu r0 q1 (q1 - wm)) [(.ref r0), (.int cp), (.ref rr)])) rfl rfl (hb hby d13_86)
    refine own_go (B := T137.setTop (mkF m 89 (LS_RJsJsuuu r0 q1 (q1 - wm)) [(.ref da), (.int cp), (.ref rr)])) (fun t k => st137 _ k) ?_
    have Ed_v138 := Ed_v118.keep K124
    obtain ⟨cq139, kq139, q139a, q139b, q139c⟩ := isOf hZ e137 Ed_v138
    obtain ⟨_, _, ⟨T139, L139, k139, n139⟩, -, X139, ⟨Lc139, hQ139, l139, y139, z139⟩, st139⟩ := X137.virtualBack hx (y := (⟨"java/util/ArrayDeque", "size", "()I"⟩ : MethodName)) (z := (⟨"java/util/ArrayDeque", "size", "()I"⟩ : MethodName)) hown (mvT hZ (hw _ (List.mem_of_getElem? (i := 113) rfl))) (mvT hZ (hw _ (List.mem_of_getElem? (i := 114) rfl))) (notFace_of_selects (args := #[]) (mvT hZ (hw _ (List.mem_of_getElem? (i := 116) rfl)))) (mvT hZ (hw _ (List.mem_of_getElem? (i := 116) rfl))) (mvT hZ (hw _ (List.mem_of_getElem? (i := 115) rfl))) (by decide) (backOf (W := 2) (rmsiz01_1_2 l Z a0 hw [] da ea ka o117 T124.heap n0 Z0_v131 Ed_v138 Fe124 Fh124 Ft124 Va124 Ov g_da g_ea) hZ (hw _ (List.mem_of_getElem? (i := 117) rfl)) (hw _ (List.mem_of_getElem? (i := 67) rfl)) (by decide) (by decide)) q139a q139c (g := (mkF m 89 (LS_RJsJsuuu r0 q1 (q1 - wm)) [(.ref da), (.int cp), (.ref rr)])) rfl (by rw [hml]; rfl) (Steps.refl _) (argsL := []) (rest := [(.int cp), (.ref rr)]) (lenOf pd___I rfl) rfl (by show 2 * 0 + _ ≤ _; exact Nat.le_of_eq rfl) (hb hby d13_89) (fun _ _ => ⟨rfl, e137, (by decide : 1 + 0 ≤ _), (by decide : 1 + 0 ≤ _)⟩)
    dsimp only [Pt.U, Pt.locs, Pt.cells, Pt.slots] at X139 l139 y139 z139 st139 hQ139
    subst l139 y139 z139
    obtain ⟨rfl, N139q, e139⟩ := hQ139
    have N139 := Fr.app N132 N139q
    refine own_go (B := T139.setTop (mkF m 92 (LS_RJsJsuuu r0 q1 (q1 - wm)) [(.int (1 : Int32)), (.int cp), (.ref rr)])) (fun t k => st139.trans k) ?_
    refine own_go (B := T139.setTop (mkF m 93 (LS_RJsJsuuu r0 q1 (q1 - wm)) [(.int (cp - (1 : Int32))), (.ref rr)])) (fun t k => ?_) ?_
    · refine XS.isub X139.here hx rfl (hb hby d13_92) rfl ?_
      exact k
    have S_ZERO_v140 := own_sta_keep S_ZERO K96 (allS (own_plain_E Ed) (allS (own_plain_V P3) all0))
    have S_ZERO_v141 := own_sta_keep S_ZERO_v140 K117 all0
    have S_ZERO_v142 := own_sta_keep S_ZERO_v141 K124 (allS (own_plain_E Ed_v118) (allS (own_plain_V Va96_v122) all0))
    have Ez_v143 := Ez.keep K96
    have Ez_v144 := Ez_v143.keep K117
    have Ez_v145 := Ez_v144.keep K124
    have ne147 : wz ≠ ea := Exa.neArv Ez_v145 Va124 (hw _ (List.mem_of_getElem? (i := 253) rfl))
    have ne148 : wz ≠ da := Exa.ne Ez Ed (by decide)
    have Fz_v146 := Fz.keep K96 (ninS ne148 (ninS ne147 nin0))
    have Fz_v149 := Fz_v146.keep K117 nin0
    have Fz_v150 := Fz_v149.keep K124 (ninS ne148 (ninS ne147 nin0))
    obtain ⟨_, _, ⟨T151, L151, k151, n151⟩, -, X151, hs151, hg151, ⟨Lc151, hQ151, l151, y151, z151⟩, st151⟩ := callSS X139 hx (y := (⟨"com/example/blend2/blend2/Decision", "admitted", "(Lcom/example/blend2/blend2/Rule;I)Lcom/example/blend2/blend2/Decision;"⟩ : MethodName)) hown (mvT hZ (hw _ (List.mem_of_getElem? (i := 155) rfl))) (mvT hZ (hw _ (List.mem_of_getElem? (i := 156) rfl))) (mvT hZ (hw _ (List.mem_of_getElem? (i := 157) rfl))) (mvT hZ (hw _ (List.mem_of_getElem? (i := 158) rfl))) (by decide) (backOfS (W := 0) (rmad2 l Z a0 hw [] rr (cp - (1 : Int32)) wz T124.heap n0 Z0_v131 S_ZERO_v142 Ez_v145 Fz_v150 (own_rem1 hc1)) hZ (hw _ (List.mem_of_getElem? (i := 158) rfl)) (hw _ (List.mem_of_getElem? (i := 157) rfl)) (by decide) (by decide)) (g := (mkF m 93 (LS_RJsJsuuu r0 q1 (q1 - wm)) [(.int (cp - (1 : Int32))), (.ref rr)])) rfl (by rw [hml]; rfl) (argsL := [(.ref rr), (.int (cp - (1 : Int32)))]) (rest := []) (lenOf pd__Lcom_example_blend2_blend2_Rule_I_Lcom_example_blend2_blend2_Decision_ rfl) rfl (by show 2 * 0 + _ ≤ _; exact Nat.le_of_eq rfl) (hb hby d13_93) (fun _ _ => ⟨rfl, e139, (by decide : 1 + 8 ≤ _), (by decide : 1 + 95 ≤ _)⟩)
    dsimp only [Pt.U, Pt.locs, Pt.cells, Pt.slots] at X151 l151 y151 z151 st151 hQ151 hs151 hg151
    subst l151 y151 z151
    have hk0_v152 := Nat.le_trans hk0 K96.1
    have hk0_v153 := Nat.le_trans hk0_v152 K117.1
    have hk0_v154 := Nat.le_trans hk0_v153 K124.1
    have hS151 : s.Since T151.vm T151.heap.size := foldS (s := s) (vm0 := s.vm) (T := T139) (U := T151) hS0 (by rw [e139]; exact hk0_v154) hs151 hg151
    have hZ151 : Z.Warmed39 (s.setVm T151.vm).vm := State.Warmed39.trans (t := s.setVm s.vm) hZ hs151.1
    have ho151 : (s.setVm T151.vm).vm.findClass "com/example/blend2/blend2/SlidingWindowLog" = some m.cls := by rw [show (s.setVm T151.vm).vm = T151.vm from rfl, hs151.1.alike.findClass]; exact hown
    obtain ⟨o151, rfl, N151q, K151⟩ := hQ151
    have N151 := Fr.app N139 N151q
    have hk151 : T151.heap.size ≤ T151.heap.size := Nat.le_refl _
    refine own_go (B := T151.setTop (mkF m 96 (LS_RJsJsuuu r0 q1 (q1 - wm)) [(.ref o151)])) (fun t k => st151.trans k) ?_
    refine own_go (B := T151.setTop (mkF m 139 (LS_RJsJsRuu r0 q1 (q1 - wm) o151) [(.ref o151)])) (fun t k => ?_) ?_
    · refine XS.astore X151.here hx rfl (hb hby d13_96) rfl rfl (l' := (LS_RJsJsRuu r0 q1 (q1 - wm) o151)) rfl ?_
      refine XS.goto X151.here hx rfl (pc0 := 98) (pc' := 137) rfl (hb hby d13_98) (by decide) (by decide) ?_
      show Steps p.tables e below (T151.setTop (mkF m 137 (LS_RJsJsRuu r0 q1 (q1 - wm) o151) [])) _
      refine XS.aload X151.here hx rfl (hb hby d13_137) rfl rfl ?_
      exact k
    obtain ⟨fs, hr, hrun, hended, hRW⟩ := Stand.leaveW (s := s) (vm₁ := T151.vm) X151 hS151 hk151 (v := some (.ref o151)) (fun h => by rw [Bd.returns] at h; cases h) (BodyLoose.notSynchronized Bd)
    refine ⟨_, _, ?_, hrun, hended, _, _, rfl, ?_, hRW.1, hRW.2.1, hRW.2.2.1, hRW.2.2.2.mono (by decide) (by decide)⟩
    · show Steps p.tables e below (T151.setTop (mkF m 139 (LS_RJsJsRuu r0 q1 (q1 - wm) o151) [(.ref o151)])) _
      exact retOut X151 hx Bd.returns rfl (Or.inr (Or.inr (Or.inr (Or.inr ⟨rfl, rfl, rfl⟩)))) (hb hby d13_139) hr
    · show QdecB Z r0 q1 da ea ka wm x0 v0 rr wz wc cc cp h0 n0 _ T151.heap _
      have Fe124_v155 := Fe124.keep K151 nin0
      have Fh124_v156 := Fh124.keep K151 nin0
      have Ft124_v157 := Ft124.keep K151 nin0
      have Va124_v158 := Va124.keep K151 nin0
      have Ef117_v159 := Ef117.keep K124
      have Ef117_v160 := Ef117_v159.keep K151
      have ne162 : o117 ≠ ea := Exa.neArv Ef117_v160 Va124_v158 (hw _ (List.mem_of_getElem? (i := 132) rfl))
      have ne163 : o117 ≠ da := Exa.ne Ef117 Ed_v118 (by decide)
      have Fs117_v161 := Fs117.keep K124 (ninS ne163 (ninS ne162 nin0))
      have Fs117_v164 := Fs117_v161.keep K151 nin0
      have K0_v165 := K0.trans K96 (allS (Or.inl (List.mem_of_getElem? (i := 0) rfl)) (allS (Or.inl (List.mem_of_getElem? (i := 1) rfl)) all0))
      have K0_v166 := K0_v165.trans K117 all0
      have K0_v167 := K0_v166.trans K124 (allS (Or.inl (List.mem_of_getElem? (i := 0) rfl)) (allS (Or.inl (List.mem_of_getElem? (i := 1) rfl)) all0))
      have K0_v168 := K0_v167.trans K151 all0
      exact ⟨o151, rfl, N151, K0_v168, Or.inl ⟨o117, hc32_8, Fe124_v155, Fh124_v156, Ft124_v157, Va124_v158, Ef117_v160, Fs117_v164⟩⟩
theorem own_len {args : Array Value} {s : State} {t : Term} {a : Addr} {cl : Cell} {z : Int32} (ht : t.eval args s none [] s = some (.ref a)) (ha : s.arrayAt? a = some cl) (h : (Term.length t).eval args s none [] s = some (.int z)) : cl.slots.size < 2 ^ 31 ∧ cl.slots.size.toInt32 = z := by
  simp [Term.eval, ht, ha] at h
  exact h
theorem own_t0 (t : Int64) : -2305843009213693952 ≤ (t >>> (((2 : Int32) &&& 0x3f).toInt64)).toInt ∧ (t >>> (((2 : Int32) &&& 0x3f).toInt64)).toInt < 2305843009213693952 := by
  have h := Jvm.Kit.i64_shr t (((2 : Int32) &&& 0x3f).toInt64) (k := 2) (by decide)
  have h1 := Int64.le_toInt t
  have h2 := Int64.toInt_lt t
  rw [h]
  omega
theorem own_sec (a : Int32) : 1 ≤ (if (1 : Int32) < (a &&& (2147483647 : Int32)) then (a &&& (2147483647 : Int32)) else (1 : Int32)).toInt := by
  have h1 : (1 : Int32).toInt = 1 := rfl
  split
  · rename_i h
    rw [Int32.lt_iff_toInt_lt, h1] at h
    omega
  · rw [h1]; omega
theorem own_wm {p : Int32} (h : 1 ≤ p.toInt) : 1000 ≤ (((p.toInt64) * (1000 : Int64))).toInt ∧ (((p.toInt64) * (1000 : Int64))).toInt ≤ 2147483647000 := by
  have h2 := Int32.toInt_lt p
  have hk : (1000 : Int64).toInt = 1000 := rfl
  have hp := Int32.toInt_toInt64 p
  rw [Jvm.Kit.i64_mul (by rw [hp, hk]; omega) (by rw [hp, hk]; omega), hp, hk]
  omega
theorem own_span {w : Int64} (h : 1000 ≤ w.toInt ∧ w.toInt ≤ 2147483647000) : 2001 ≤ (((2 : Int64) * w) + (1 : Int64)).toInt ∧ (((2 : Int64) * w) + (1 : Int64)).toInt ≤ 4294967294001 := by
  have h2 : (2 : Int64).toInt = 2 := rfl
  have h1 : (1 : Int64).toInt = 1 := rfl
  have e : ((2 : Int64) * w).toInt = 2 * w.toInt := by rw [Jvm.Kit.i64_mul (by rw [h2]; omega) (by rw [h2]; omega), h2]
  rw [Jvm.Kit.i64_add (by rw [e, h1]; omega) (by rw [e, h1]; omega), e, h1]
  omega
theorem own_snz {w : Int64} {a b : Int} (h : 2001 ≤ w.toInt ∧ w.toInt ≤ b) : ¬ (w = (0 : Int64)) := fun q => by
  rw [q] at h
  exact absurd h.1 (by decide)
theorem own_rd (b w : Int64) (h : 2001 ≤ w.toInt ∧ w.toInt ≤ 4294967294001) : 0 ≤ ((b &&& (140737488355327 : Int64)) - ((b &&& (140737488355327 : Int64)) / w) * w).toInt ∧ ((b &&& (140737488355327 : Int64)) - ((b &&& (140737488355327 : Int64)) / w) * w).toInt ≤ 4294967294001 := by
  have hk := Jvm.Kit.i64_mask b 140737488355327 (k := 47) (by decide) (by decide)
  obtain ⟨x, hx⟩ : ∃ x, x = (b &&& (140737488355327 : Int64)) := ⟨_, rfl⟩
  rw [← hx] at hk ⊢
  have hx0 : 0 ≤ x.toInt ∧ x.toInt < 140737488355328 := by omega
  have hq : (x / w).toInt = x.toInt / w.toInt := (Jvm.Kit.i64_div (by omega)).trans (Int.tdiv_eq_ediv_of_nonneg (by omega))
  have hm := Int.mul_ediv_add_emod x.toInt w.toInt
  have hr1 := Int.emod_nonneg x.toInt (b := w.toInt) (by omega)
  have hr2 := Int.emod_lt_of_pos x.toInt (b := w.toInt) (by omega)
  have e1 : (x / w).toInt * w.toInt = w.toInt * (x.toInt / w.toInt) := by rw [hq, Int.mul_comm]
  have hd0 : 0 ≤ w.toInt * (x.toInt / w.toInt) := Int.mul_nonneg (by omega) (Int.ediv_nonneg (by omega) (by omega))
  have e2 : ((x / w) * w).toInt = w.toInt * (x.toInt / w.toInt) := by rw [Jvm.Kit.i64_mul (by rw [e1]; omega) (by rw [e1]; omega), e1]
  rw [Jvm.Kit.i64_sub (by rw [e2]; omega) (by rw [e2]; omega), e2]
  omega
theorem own_cap (c : Int32) : 1 ≤ ((1 : Int32) + (c &&& (1 : Int32))).toInt ∧ ((1 : Int32) + (c &&& (1 : Int32))).toInt ≤ 2 := by
  have h : (c &&& (1 : Int32)).toInt = c.toInt % 2 ^ 1 := Jvm.Kit.i32_mask c 1 (k := 1) (by decide) (by decide)
  have h1 : (1 : Int32).toInt = 1 := rfl
  rw [Jvm.Kit.i32_add (by rw [h1]; omega) (by rw [h1]; omega), h1]
  omega
theorem own_ge1 {p : Int32} (h : 1 ≤ p.toInt) : ¬ (p < (1 : Int32)) := by
  rw [Int32.lt_iff_toInt_lt]
  have h1 : (1 : Int32).toInt = 1 := rfl
  omega
theorem own_two {cp : Int32} (h : 1 ≤ cp.toInt ∧ cp.toInt ≤ 2) : ((1 : Int32) < cp ↔ cp = (2 : Int32)) := by
  have h1 : (1 : Int32).toInt = 1 := rfl
  have h2 : (2 : Int32).toInt = 2 := rfl
  rw [Int32.lt_iff_toInt_lt, ← Int32.toInt_inj, h1, h2]
  omega
theorem own_add12 {t d : Int64} (h : -2305843009213693952 ≤ t.toInt ∧ t.toInt < 2305843009213693952) (hd : 0 ≤ d.toInt ∧ d.toInt ≤ 4294967294001) : (t + d).toInt = t.toInt + d.toInt := Jvm.Kit.i64_add (by omega) (by omega)
theorem own_dw {t1 d t2 w : Int64} (e : t2 = t1 + d) (h : -2305843009213693952 ≤ t1.toInt ∧ t1.toInt < 2305843009213693952) (hd : 0 ≤ d.toInt ∧ d.toInt ≤ 4294967294001) (hw : 1000 ≤ w.toInt ∧ w.toInt ≤ 2147483647000) : ((t2 - w) < t1 ↔ d < w) := by
  have ha := own_add12 h hd
  have hs : (t2 - w).toInt = t1.toInt + d.toInt - w.toInt := by rw [e, Jvm.Kit.i64_sub (by omega) (by omega), ha]
  rw [Int64.lt_iff_toInt_lt, Int64.lt_iff_toInt_lt, hs]
  omega
theorem own_and3 (x : Int32) : x &&& (3 : Int32) = (0 : Int32) ∨ x &&& (3 : Int32) = (1 : Int32) ∨ x &&& (3 : Int32) = (2 : Int32) ∨ x &&& (3 : Int32) = (3 : Int32) := by
  have h : (x &&& (3 : Int32)).toInt = x.toInt % 2 ^ 2 := Jvm.Kit.i32_mask x 3 (k := 2) (by decide) (by decide)
  simp only [← Int32.toInt_inj, h, Int32.reduceToInt]
  omega
theorem own_m3 (x : Int32) : (x &&& (3 : Int32)) % (3 : Int32) = (0 : Int32) ∨ (x &&& (3 : Int32)) % (3 : Int32) = (1 : Int32) ∨ (x &&& (3 : Int32)) % (3 : Int32) = (2 : Int32) := by
  rcases own_and3 x with h | h | h | h <;> rw [h] <;> decide
theorem ef_0 (m : MethodId) (p0 : Int32) (p1 : Int32) (q2 : Int64) (q3 : Int64) (q4 : Int64) : entryFrame m #[(.int p0), (.int p1), (.long q2), (.long q3), (.long q4)] maxLocals = mkF m 0 #[.val (.int p0), .val (.int p1), .val (.long q2), .second, .val (.long q3), .second, .val (.long q4), .second, .unset, .unset, .unset, .unset, .unset, .unset, .unset, .unset, .unset, .unset, .unset, .unset, .unset, .unset, .unset, .unset, .unset, .unset, .unset, .unset, .unset, .unset, .unset] [] := by first | (simp [entryFrame, mkF, argsToLocals, Value.category, maxLocals]; done) | rfl
theorem pn_0 : plainName "com/example/blend2/blend2/SlidingWindowLogIsIdleAtPinLaw" = true := by first | (simp [plainName, overriddenIn]; done) | decide +kernel
abbrev LS_IIJsJsJsuuuuuuuuuuuuuuuuuuuuuuu (a0 : Int32) (a1 : Int32) (a2 : Int64) (a3 : Int64) (a4 : Int64) : Array Slot := #[.val (.int a0), .val (.int a1), .val (.long a2), .second, .val (.long a3), .second, .val (.long a4), .second, .unset, .unset, .unset, .unset, .unset, .unset, .unset, .unset, .unset, .unset, .unset, .unset, .unset, .unset, .unset, .unset, .unset, .unset, .unset, .unset, .unset, .unset, .unset]
abbrev LS_IIJsJsJsIuuuuuuuuuuuuuuuuuuuuuu (a0 : Int32) (a1 : Int32) (a2 : Int64) (a3 : Int64) (a4 : Int64) (a5 : Int32) : Array Slot := #[.val (.int a0), .val (.int a1), .val (.long a2), .second, .val (.long a3), .second, .val (.long a4), .second, .val (.int a5), .unset, .unset, .unset, .unset, .unset, .unset, .unset, .unset, .unset, .unset, .unset, .unset, .unset, .unset, .unset, .unset, .unset, .unset, .unset, .unset, .unset, .unset]
abbrev LS_IIJsJsJsIIuuuuuuuuuuuuuuuuuuuuu (a0 : Int32) (a1 : Int32) (a2 : Int64) (a3 : Int64) (a4 : Int64) (a5 : Int32) (a6 : Int32) : Array Slot := #[.val (.int a0), .val (.int a1), .val (.long a2), .second, .val (.long a3), .second, .val (.long a4), .second, .val (.int a5), .val (.int a6), .unset, .unset, .unset, .unset, .unset, .unset, .unset, .unset, .unset, .unset, .unset, .unset, .unset, .unset, .unset, .unset, .unset, .unset, .unset, .unset, .unset]
abbrev LS_IIJsJsJsIIIuuuuuuuuuuuuuuuuuuuu (a0 : Int32) (a1 : Int32) (a2 : Int64) (a3 : Int64) (a4 : Int64) (a5 : Int32) (a6 : Int32) (a7 : Int32) : Array Slot := #[.val (.int a0), .val (.int a1), .val (.long a2), .second, .val (.long a3), .second, .val (.long a4), .second, .val (.int a5), .val (.int a6), .val (.int a7), .unset, .unset, .unset, .unset, .unset, .unset, .unset, .unset, .unset, .unset, .unset, .unset, .unset, .unset, .unset, .unset, .unset, .unset, .unset, .unset]
abbrev LS_IIJsJsJsIIIJsuuuuuuuuuuuuuuuuuu (a0 : Int32) (a1 : Int32) (a2 : Int64) (a3 : Int64) (a4 : Int64) (a5 : Int32) (a6 : Int32) (a7 : Int32) (a8 : Int64) : Array Slot := #[.val (.int a0), .val (.int a1), .val (.long a2), .second, .val (.long a3), .second, .val (.long a4), .second, .val (.int a5), .val (.int a6), .val (.int a7), .val (.long a8), .second, .unset, .unset, .unset, .unset, .unset, .unset, .unset, .unset, .unset, .unset, .unset, .unset, .unset, .unset, .unset, .unset, .unset, .unset]
abbrev LS_IIJsJsJsIIIJsJsuuuuuuuuuuuuuuuu (a0 : Int32) (a1 : Int32) (a2 : Int64) (a3 : Int64) (a4 : Int64) (a5 : Int32) (a6 : Int32) (a7 : Int32) (a8 : Int64) (a9 : Int64) : Array Slot := #[.val (.int a0), .val (.int a1), .val (.long a2), .second, .val (.long a3), .second, .val (.long a4), .second, .val (.int a5), .val (.int a6), .val (.int a7), .val (.long a8), .second, .val (.long a9), .second, .unset, .unset, .unset, .unset, .unset, .unset, .unset, .unset, .unset, .unset, .unset, .unset, .unset, .unset, .unset, .unset]
abbrev LS_IIJsJsJsIIIJsJsJsuuuuuuuuuuuuuu (a0 : Int32) (a1 : Int32) (a2 : Int64) (a3 : Int64) (a4 : Int64) (a5 : Int32) (a6 : Int32) (a7 : Int32) (a8 : Int64) (a9 : Int64) (a10 : Int64) : Array Slot := #[.val (.int a0), .val (.int a1), .val (.long a2), .second, .val (.long a3), .second, .val (.long a4), .second, .val (.int a5), .val (.int a6), .val (.int a7), .val (.long a8), .second, .val (.long a9), .second, .val (.long a10), .second, .unset, .unset, .unset, .unset, .unset, .unset, .unset, .unset, .unset, .unset, .unset, .unset, .unset, .unset]
abbrev LS_IIJsJsJsIIIJsJsJsJsuuuuuuuuuuuu (a0 : Int32) (a1 : Int32) (a2 : Int64) (a3 : Int64) (a4 : Int64) (a5 : Int32) (a6 : Int32) (a7 : Int32) (a8 : Int64) (a9 : Int64) (a10 : Int64) (a11 : Int64) : Array Slot := #[.val (.int a0), .val (.int a1), .val (.long a2), .second, .val (.long a3), .second, .val (.long a4), .second, .val (.int a5), .val (.int a6), .val (.int a7), .val (.long a8), .second, .val (.long a9), .second, .val (.long a10), .second, .val (.long a11), .second, .unset, .unset, .unset, .unset, .unset, .unset, .unset, .unset, .unset, .unset, .unset, .unset]
abbrev LS_IIJsJsJsIIIJsJsJsJsJsuuuuuuuuuu (a0 : Int32) (a1 : Int32) (a2 : Int64) (a3 : Int64) (a4 : Int64) (a5 : Int32) (a6 : Int32) (a7 : Int32) (a8 : Int64) (a9 : Int64) (a10 : Int64) (a11 : Int64) (a12 : Int64) : Array Slot := #[.val (.int a0), .val (.int a1), .val (.long a2), .second, .val (.long a3), .second, .val (.long a4), .second, .val (.int a5), .val (.int a6), .val (.int a7), .val (.long a8), .second, .val (.long a9), .second, .val (.long a10), .second, .val (.long a11), .second, .val (.long a12), .second, .unset, .unset, .unset, .unset, .unset, .unset, .unset, .unset, .unset, .unset]
abbrev LS_IIJsJsJsIIIJsJsJsJsJsJsuuuuuuuu (a0 : Int32) (a1 : Int32) (a2 : Int64) (a3 : Int64) (a4 : Int64) (a5 : Int32) (a6 : Int32) (a7 : Int32) (a8 : Int64) (a9 : Int64) (a10 : Int64) (a11 : Int64) (a12 : Int64) (a13 : Int64) : Array Slot := #[.val (.int a0), .val (.int a1), .val (.long a2), .second, .val (.long a3), .second, .val (.long a4), .second, .val (.int a5), .val (.int a6), .val (.int a7), .val (.long a8), .second, .val (.long a9), .second, .val (.long a10), .second, .val (.long a11), .second, .val (.long a12), .second, .val (.long a13), .second, .unset, .unset, .unset, .unset, .unset, .unset, .unset, .unset]
theorem pd__Ljava_lang_String_II_V : parseMethodDescriptor "(Ljava/lang/String;II)V" = some ⟨[(.object "java/lang/String"), .int, .int], none⟩ := by decide +kernel
theorem pd__Lcom_example_blend2_blend2_Rule__V : parseMethodDescriptor "(Lcom/example/blend2/blend2/Rule;)V" = some ⟨[(.object "com/example/blend2/blend2/Rule")], none⟩ := by decide +kernel
abbrev LS_IIJsJsJsIIIJsJsJsJsJsJsRuuuuuuu (a0 : Int32) (a1 : Int32) (a2 : Int64) (a3 : Int64) (a4 : Int64) (a5 : Int32) (a6 : Int32) (a7 : Int32) (a8 : Int64) (a9 : Int64) (a10 : Int64) (a11 : Int64) (a12 : Int64) (a13 : Int64) (a14 : Addr) : Array Slot := #[.val (.int a0), .val (.int a1), .val (.long a2), .second, .val (.long a3), .second, .val (.long a4), .second, .val (.int a5), .val (.int a6), .val (.int a7), .val (.long a8), .second, .val (.long a9), .second, .val (.long a10), .second, .val (.long a11), .second, .val (.long a12), .second, .val (.long a13), .second, .val (.ref a14), .unset, .unset, .unset, .unset, .unset, .unset, .unset]
abbrev LS_IIJsJsJsIIIJsJsJsJsJsJsRJsuuuuu (a0 : Int32) (a1 : Int32) (a2 : Int64) (a3 : Int64) (a4 : Int64) (a5 : Int32) (a6 : Int32) (a7 : Int32) (a8 : Int64) (a9 : Int64) (a10 : Int64) (a11 : Int64) (a12 : Int64) (a13 : Int64) (a14 : Addr) (a15 : Int64) : Array Slot := #[.val (.int a0), .val (.int a1), .val (.long a2), .second, .val (.long a3), .second, .val (.long a4), .second, .val (.int a5), .val (.int a6), .val (.int a7), .val (.long a8), .second, .val (.long a9), .second, .val (.long a10), .second, .val (.long a11), .second, .val (.long a12), .second, .val (.long a13), .second, .val (.ref a14), .val (.long a15), .second, .unset, .unset, .unset, .unset, .unset]
abbrev LS_IIJsJsJsIIIJsJsJsJsJsJsRJsJsuuu (a0 : Int32) (a1 : Int32) (a2 : Int64) (a3 : Int64) (a4 : Int64) (a5 : Int32) (a6 : Int32) (a7 : Int32) (a8 : Int64) (a9 : Int64) (a10 : Int64) (a11 : Int64) (a12 : Int64) (a13 : Int64) (a14 : Addr) (a15 : Int64) (a16 : Int64) : Array Slot := #[.val (.int a0), .val (.int a1), .val (.long a2), .second, .val (.long a3), .second, .val (.long a4), .second, .val (.int a5), .val (.int a6), .val (.int a7), .val (.long a8), .second, .val (.long a9), .second, .val (.long a10), .second, .val (.long a11), .second, .val (.long a12), .second, .val (.long a13), .second, .val (.ref a14), .val (.long a15), .second, .val (.long a16), .second, .unset, .unset, .unset]
abbrev LS_IIJsJsJsIIIJsJsJsJsJsJsRJsJsIuu (a0 : Int32) (a1 : Int32) (a2 : Int64) (a3 : Int64) (a4 : Int64) (a5 : Int32) (a6 : Int32) (a7 : Int32) (a8 : Int64) (a9 : Int64) (a10 : Int64) (a11 : Int64) (a12 : Int64) (a13 : Int64) (a14 : Addr) (a15 : Int64) (a16 : Int64) (a17 : Int32) : Array Slot := #[.val (.int a0), .val (.int a1), .val (.long a2), .second, .val (.long a3), .second, .val (.long a4), .second, .val (.int a5), .val (.int a6), .val (.int a7), .val (.long a8), .second, .val (.long a9), .second, .val (.long a10), .second, .val (.long a11), .second, .val (.long a12), .second, .val (.long a13), .second, .val (.ref a14), .val (.long a15), .second, .val (.long a16), .second, .val (.int a17), .unset, .unset]
theorem pd__J_Z : parseMethodDescriptor "(J)Z" = some ⟨[.long], some .boolean⟩ := by decide +kernel
theorem pd__J_Lcom_example_blend2_blend2_Decision_ : parseMethodDescriptor "(J)Lcom/example/blend2/blend2/Decision;" = some ⟨[.long], some (.object "com/example/blend2/blend2/Decision")⟩ := by decide +kernel
abbrev LS_IIJsJsJsIIIJsJsJsJsJsJsRJsJsuJs (a0 : Int32) (a1 : Int32) (a2 : Int64) (a3 : Int64) (a4 : Int64) (a5 : Int32) (a6 : Int32) (a7 : Int32) (a8 : Int64) (a9 : Int64) (a10 : Int64) (a11 : Int64) (a12 : Int64) (a13 : Int64) (a14 : Addr) (a15 : Int64) (a16 : Int64) (a17 : Int64) : Array Slot := #[.val (.int a0), .val (.int a1), .val (.long a2), .second, .val (.long a3), .second, .val (.long a4), .second, .val (.int a5), .val (.int a6), .val (.int a7), .val (.long a8), .second, .val (.long a9), .second, .val (.long a10), .second, .val (.long a11), .second, .val (.long a12), .second, .val (.long a13), .second, .val (.ref a14), .val (.long a15), .second, .val (.long a16), .second, .unset, .val (.long a17), .second]
abbrev LS_IIJsJsJsIIIJsJsJsJsJsJsRJsJsIJs (a0 : Int32) (a1 : Int32) (a2 : Int64) (a3 : Int64) (a4 : Int64) (a5 : Int32) (a6 : Int32) (a7 : Int32) (a8 : Int64) (a9 : Int64) (a10 : Int64) (a11 : Int64) (a12 : Int64) (a13 : Int64) (a14 : Addr) (a15 : Int64) (a16 : Int64) (a17 : Int32) (a18 : Int64) : Array Slot := #[.val (.int a0), .val (.int a1), .val (.long a2), .second, .val (.long a3), .second, .val (.long a4), .second, .val (.int a5), .val (.int a6), .val (.int a7), .val (.long a8), .second, .val (.long a9), .second, .val (.long a10), .second, .val (.long a11), .second, .val (.long a12), .second, .val (.long a13), .second, .val (.ref a14), .val (.long a15), .second, .val (.long a16), .second, .val (.int a17), .val (.long a18), .second]
def Q0 (Z : State) (p0 : Int32) (p1 : Int32) (q2 : Int64) (q3 : Int64) (q4 : Int64) (w_Algorithm_SLIDING_WINDOW_LOG : Addr) (w_StoreFailurePolicy_OPEN : Addr) (w_Duration_ZERO : Addr) (w_Long_LongCache_cache : Addr) (cc : Cell) (h0 : Heap) (n0 : Nat) (v : Option Value) (h : Heap) (L : List Loc) : Prop := v = some (.int (1 : Int32)) ∧ Fr n0 L
set_option maxRecDepth 65536 in
set_option maxHeartbeats 40000000 in
theorem rm0 (l : Launch) (Z : State) (a0 : Array Value) (hw : ∀ d ∈ tables_1, d.before a0 Z = true) (ws : List Jvm.Cond) (p0 : Int32) (p1 : Int32) (q2 : Int64) (q3 : Int64) (q4 : Int64) (w_Algorithm_SLIDING_WINDOW_LOG : Addr) (w_StoreFailurePolicy_OPEN : Addr) (w_Duration_ZERO : Addr) (w_Long_LongCache_cache : Addr) (cc : Cell) (h0 : Heap) (n0 : Nat) (Z0 : n0 ≤ h0.size) (S_Algorithm_SLIDING_WINDOW_LOG : Sta Z h0 "com/example/blend2/blend2/Algorithm" "SLIDING_WINDOW_LOG" "Lcom/example/blend2/blend2/Algorithm;" (.ref w_Algorithm_SLIDING_WINDOW_LOG)) (E_Algorithm_SLIDING_WINDOW_LOG : Exa Z h0 w_Algorithm_SLIDING_WINDOW_LOG "com/example/blend2/blend2/Algorithm") (S_StoreFailurePolicy_OPEN : Sta Z h0 "com/example/blend2/blend2/StoreFailurePolicy" "OPEN" "Lcom/example/blend2/blend2/StoreFailurePolicy;" (.ref w_StoreFailurePolicy_OPEN)) (E_StoreFailurePolicy_OPEN : Exa Z h0 w_StoreFailurePolicy_OPEN "com/example/blend2/blend2/StoreFailurePolicy") (S_Duration_ZERO : Sta Z h0 "java/time/Duration" "ZERO" "Ljava/time/Duration;" (.ref w_Duration_ZERO)) (E_Duration_ZERO : Exa Z h0 w_Duration_ZERO "java/time/Duration") (S_Long_LongCache_cache : Sta Z h0 "java/lang/Long$LongCache" "cache" "[Ljava/lang/Long;" (.ref w_Long_LongCache_cache)) (E_Long_LongCache_cache : Exa Z h0 w_Long_LongCache_cache "[Ljava/lang/Long;") (S_Rule_DEFAULT_ALGORITHM : Sta Z h0 "com/example/blend2/blend2/Rule" "DEFAULT_ALGORITHM" "Lcom/example/blend2/blend2/Algorithm;" (.ref w_Algorithm_SLIDING_WINDOW_LOG)) (S_Rule_DEFAULT_STORE_FAILURE_POLICY : Sta Z h0 "com/example/blend2/blend2/Rule" "DEFAULT_STORE_FAILURE_POLICY" "Lcom/example/blend2/blend2/StoreFailurePolicy;" (.ref w_StoreFailurePolicy_OPEN)) (F_Duration_ZERO_seconds : Fld Z h0 w_Duration_ZERO "java/time/Duration" "seconds" "J" (.long (0 : Int64))) (F_Duration_ZERO_nanos : Fld Z h0 w_Duration_ZERO "java/time/Duration" "nanos" "I" (.int (0 : Int32))) (OL : Old Z n0 h0) (BX : Bxs Z w_Long_LongCache_cache cc "java/lang/Long" "J" (256 : Int32) (fun j : Int32 => Value.long ((j - (128 : Int32)).toInt64))) :
    MetFree l x (head1 (Jvm.Cond.code x code maxLocals ret :: ws) room_1) (fun a U => a = #[(.int p0), (.int p1), (.long q2), (.long q3), (.long q4)] ∧ Z.Warmed39 U.vm ∧ U.heap = h0) (fun _ _ _ _ _ => True) (fun _ U o U' => ∃ v L, o = .returned v ∧ Q0 Z p0 p1 q2 q3 q4 w_Algorithm_SLIDING_WINDOW_LOG w_StoreFailurePolicy_OPEN w_Duration_ZERO w_Long_LongCache_cache cc h0 n0 v U'.heap L ∧ ReturnedEndW U o U' L room_1.cells room_1.slots) := by
  refine MetFree.of_bodySF (plainFor_of_name pn_0) hisR ?_
  intro p e s m args below meth c s₁ Bd hml0 hP hK
  obtain ⟨rfl, hZ, hh⟩ := hP
  have hx := Bd.exec
  have hby := Bd.bytes
  have hml : c.maxLocals = 31 := hml0
  have hown : s.vm.findClass "com/example/blend2/blend2/SlidingWindowLogIsIdleAtPinLaw" = some m.cls := findClass_of_methodNamed Bd.named
  have hnm := (name_of_methodNamed Bd.named Bd.method).1
  have X0 : Stand p l e room_1 s m #[(.int p0), (.int p1), (.long q2), (.long q3), (.long q4)] below meth c s₁ [] 0 0 := Stand.of_body Bd
  have e0 : s₁.heap = h0 := by rw [← hh, Bd.state]; rfl
  have N0 := Fr.nil n0
  refine own_go (B := s₁.setTop (mkF m 0 (LS_IIJsJsJsuuuuuuuuuuuuuuuuuuuuuuu p0 p1 q2 q3 q4) [])) (fun t k => castTop (ef_0 m p0 p1 q2 q3 q4) k) ?_
  have hS0 : s.Since s.vm 0 := (State.WarmedH.refl s).since 0
  have hk0 : 0 ≤ Array.size h0 := Nat.zero_le _
  refine own_go (B := s₁.setTop (mkF m 21 (LS_IIJsJsJsIIuuuuuuuuuuuuuuuuuuuuu p0 p1 q2 q3 q4 ((1 : Int32) + (p0 &&& (1 : Int32))) ((((p0.toUInt32 >>> ((1 : Int32) &&& 31).toUInt32).toInt32) &&& (3 : Int32)) % (3 : Int32))) [(.int (p1 &&& (2147483647 : Int32))), (.int (1 : Int32))])) (fun t k => ?_) ?_
  · refine XS.iconst X0.here hx rfl (hb hby at_0) ?_
    refine XS.iloadN X0.here hx rfl (hb hby at_1) rfl ?_
    show Steps p.tables e below (s₁.setTop (mkF m 2 (LS_IIJsJsJsuuuuuuuuuuuuuuuuuuuuuuu p0 p1 q2 q3 q4) [(.int p0), (.int (1 : Int32))])) _
    refine XS.iconst X0.here hx rfl (hb hby at_2) ?_
    refine XS.iand X0.here hx rfl (hb hby at_3) rfl ?_
    refine XS.iadd X0.here hx rfl (hb hby at_4) rfl ?_
    show Steps p.tables e below (s₁.setTop (mkF m 5 (LS_IIJsJsJsuuuuuuuuuuuuuuuuuuuuuuu p0 p1 q2 q3 q4) [(.int ((1 : Int32) + (p0 &&& (1 : Int32))))])) _
    refine XS.istore X0.here hx rfl (hb hby at_5) rfl (l' := (LS_IIJsJsJsIuuuuuuuuuuuuuuuuuuuuuu p0 p1 q2 q3 q4 ((1 : Int32) + (p0 &&& (1 : Int32))))) rfl ?_
    refine XS.iloadN X0.here hx rfl (hb hby at_7) rfl ?_
    refine XS.iconst X0.here hx rfl (hb hby at_8) ?_
    show Steps p.tables e below (s₁.setTop (mkF m 9 (LS_IIJsJsJsIuuuuuuuuuuuuuuuuuuuuuu p0 p1 q2 q3 q4 ((1 : Int32) + (p0 &&& (1 : Int32)))) [(.int (1 : Int32)), (.int p0)])) _
    refine XS.iushr X0.here hx rfl (hb hby at_9) rfl ?_
    refine XS.iconst X0.here hx rfl (hb hby at_10) ?_
    refine XS.iand X0.here hx rfl (hb hby at_11) rfl ?_
    show Steps p.tables e below (s₁.setTop (mkF m 12 (LS_IIJsJsJsIuuuuuuuuuuuuuuuuuuuuuu p0 p1 q2 q3 q4 ((1 : Int32) + (p0 &&& (1 : Int32)))) [(.int (((p0.toUInt32 >>> ((1 : Int32) &&& 31).toUInt32).toInt32) &&& (3 : Int32)))])) _
    refine XS.iconst X0.here hx rfl (hb hby at_12) ?_
    refine Jvm.RoadKit.iremM X0 hx rfl (hb hby at_13) rfl (by decide) ?_
    refine XS.istore X0.here hx rfl (hb hby at_14) rfl (l' := (LS_IIJsJsJsIIuuuuuuuuuuuuuuuuuuuuu p0 p1 q2 q3 q4 ((1 : Int32) + (p0 &&& (1 : Int32))) ((((p0.toUInt32 >>> ((1 : Int32) &&& 31).toUInt32).toInt32) &&& (3 : Int32)) % (3 : Int32)))) rfl ?_
    show Steps p.tables e below (s₁.setTop (mkF m 16 (LS_IIJsJsJsIIuuuuuuuuuuuuuuuuuuuuu p0 p1 q2 q3 q4 ((1 : Int32) + (p0 &&& (1 : Int32))) ((((p0.toUInt32 >>> ((1 : Int32) &&& 31).toUInt32).toInt32) &&& (3 : Int32)) % (3 : Int32))) [])) _
    refine XS.iconst X0.here hx rfl (hb hby at_16) ?_
    refine XS.iloadN X0.here hx rfl (hb hby at_17) rfl ?_
    refine X0.ldcInt hx hown (mvT hZ (hw _ (List.mem_of_getElem? (i := 0) rfl))) (g := (mkF m 18 (LS_IIJsJsJsIIuuuuuuuuuuuuuuuuuuuuu p0 p1 q2 q3 q4 ((1 : Int32) + (p0 &&& (1 : Int32))) ((((p0.toUInt32 >>> ((1 : Int32) &&& 31).toUInt32).toInt32) &&& (3 : Int32)) % (3 : Int32))) [(.int p1), (.int (1 : Int32))])) rfl (hb hby at_18) _ ?_
    show Steps p.tables e below (s₁.setTop (mkF m 20 (LS_IIJsJsJsIIuuuuuuuuuuuuuuuuuuuuu p0 p1 q2 q3 q4 ((1 : Int32) + (p0 &&& (1 : Int32))) ((((p0.toUInt32 >>> ((1 : Int32) &&& 31).toUInt32).toInt32) &&& (3 : Int32)) % (3 : Int32))) [(.int (2147483647 : Int32)), (.int p1), (.int (1 : Int32))])) _
    refine XS.iand X0.here hx rfl (hb hby at_20) rfl ?_
    exact k
  obtain ⟨_, _, ⟨T1, L1, k1, n1⟩, -, X1, ⟨Lc1, hQ1, l1, y1, z1⟩, st1⟩ := Jvm.LawKit.callS X0 hx (y := (⟨"java/lang/Math", "max", "(II)I"⟩ : MethodName)) hown (mvT hZ (hw _ (List.mem_of_getElem? (i := 1) rfl))) (mvT hZ (hw _ (List.mem_of_getElem? (i := 2) rfl))) (mvT hZ (hw _ (List.mem_of_getElem? (i := 3) rfl))) (mvT hZ (hw _ (List.mem_of_getElem? (i := 4) rfl))) (by decide) (backOf (W := 0) (rmmax l Z a0 hw [] (1 : Int32) (p1 &&& (2147483647 : Int32)) h0 n0 Z0) hZ (hw _ (List.mem_of_getElem? (i := 4) rfl)) (hw _ (List.mem_of_getElem? (i := 3) rfl)) (by decide) (by decide)) (g := (mkF m 21 (LS_IIJsJsJsIIuuuuuuuuuuuuuuuuuuuuu p0 p1 q2 q3 q4 ((1 : Int32) + (p0 &&& (1 : Int32))) ((((p0.toUInt32 >>> ((1 : Int32) &&& 31).toUInt32).toInt32) &&& (3 : Int32)) % (3 : Int32))) [(.int (p1 &&& (2147483647 : Int32))), (.int (1 : Int32))])) rfl (by rw [hml]; rfl) (argsL := [(.int (1 : Int32)), (.int (p1 &&& (2147483647 : Int32)))]) (rest := []) (lenOf pd__II_I rfl) rfl (by show 2 * 0 + _ ≤ _; exact Nat.le_of_eq rfl) (hb hby at_21) (fun _ _ => ⟨rfl, e0, (by decide : 0 + 0 ≤ _), (by decide : 0 + 0 ≤ _)⟩)
  dsimp only [Pt.U, Pt.locs, Pt.cells, Pt.slots] at X1 l1 y1 z1 st1 hQ1
  subst l1 y1 z1
  obtain ⟨rfl, N1q, e1⟩ := hQ1
  have N1 := Fr.app N0 N1q
  refine own_go (B := T1.setTop (mkF m 24 (LS_IIJsJsJsIIuuuuuuuuuuuuuuuuuuuuu p0 p1 q2 q3 q4 ((1 : Int32) + (p0 &&& (1 : Int32))) ((((p0.toUInt32 >>> ((1 : Int32) &&& 31).toUInt32).toInt32) &&& (3 : Int32)) % (3 : Int32))) [(.int (if (1 : Int32) < (p1 &&& (2147483647 : Int32)) then (p1 &&& (2147483647 : Int32)) else (1 : Int32)))])) (fun t k => st1 _ k) ?_
  refine own_go (B := T1.setTop (mkF m 26 (LS_IIJsJsJsIIIuuuuuuuuuuuuuuuuuuuu p0 p1 q2 q3 q4 ((1 : Int32) + (p0 &&& (1 : Int32))) ((((p0.toUInt32 >>> ((1 : Int32) &&& 31).toUInt32).toInt32) &&& (3 : Int32)) % (3 : Int32)) (if (1 : Int32) < (p1 &&& (2147483647 : Int32)) then (p1 &&& (2147483647 : Int32)) else (1 : Int32))) [])) (fun t k => ?_) ?_
  · refine XS.istore X1.here hx rfl (hb hby at_24) rfl (l' := (LS_IIJsJsJsIIIuuuuuuuuuuuuuuuuuuuu p0 p1 q2 q3 q4 ((1 : Int32) + (p0 &&& (1 : Int32))) ((((p0.toUInt32 >>> ((1 : Int32) &&& 31).toUInt32).toInt32) &&& (3 : Int32)) % (3 : Int32)) (if (1 : Int32) < (p1 &&& (2147483647 : Int32)) then (p1 &&& (2147483647 : Int32)) else (1 : Int32)))) rfl ?_
    exact k
  obtain ⟨cp, e_cp⟩ : ∃ z, z = ((1 : Int32) + (p0 &&& (1 : Int32))) := ⟨_, rfl⟩
  obtain ⟨sc, e_sc⟩ : ∃ z, z = (if (1 : Int32) < (p1 &&& (2147483647 : Int32)) then (p1 &&& (2147483647 : Int32)) else (1 : Int32)) := ⟨_, rfl⟩
  refine own_go (B := T1.setTop (mkF m 26 (LS_IIJsJsJsIIIuuuuuuuuuuuuuuuuuuuu p0 p1 q2 q3 q4 cp ((((p0.toUInt32 >>> ((1 : Int32) &&& 31).toUInt32).toInt32) &&& (3 : Int32)) % (3 : Int32)) sc) [])) (fun t k => by rw [e_cp, e_sc] at k; exact k) ?_
  have hsc : 1 ≤ sc.toInt := by rw [e_sc]; exact own_sec _
  have hw1 := own_wm hsc
  have hcp : 1 ≤ cp.toInt ∧ cp.toInt ≤ 2 := by rw [e_cp]; exact own_cap _
  have hsp := own_span hw1
  refine own_go (B := T1.setTop (mkF m 79 (LS_IIJsJsJsIIIJsJsJsJsJsJsuuuuuuuu p0 p1 q2 q3 q4 cp ((((p0.toUInt32 >>> ((1 : Int32) &&& 31).toUInt32).toInt32) &&& (3 : Int32)) % (3 : Int32)) sc ((sc.toInt64) * (1000 : Int64)) (((2 : Int64) * ((sc.toInt64) * (1000 : Int64))) + (1 : Int64)) (q2 >>> ((2 : Int32) &&& 0x3f).toInt64) ((q3 &&& (140737488355327 : Int64)) - ((q3 &&& (140737488355327 : Int64)) / (((2 : Int64) * ((sc.toInt64) * (1000 : Int64))) + (1 : Int64))) * (((2 : Int64) * ((sc.toInt64) * (1000 : Int64))) + (1 : Int64))) ((q4 &&& (140737488355327 : Int64)) - ((q4 &&& (140737488355327 : Int64)) / (((2 : Int64) * ((sc.toInt64) * (1000 : Int64))) + (1 : Int64))) * (((2 : Int64) * ((sc.toInt64) * (1000 : Int64))) + (1 : Int64))) ((q2 >>> ((2 : Int32) &&& 0x3f).toInt64) + ((q3 &&& (140737488355327 : Int64)) - ((q3 &&& (140737488355327 : Int64)) / (((2 : Int64) * ((sc.toInt64) * (1000 : Int64))) + (1 : Int64))) * (((2 : Int64) * ((sc.toInt64) * (1000 : Int64))) + (1 : Int64))))) [])) (fun t k => ?_) ?_
  · refine XS.iload X1.here hx rfl (hb hby at_26) rfl ?_
    refine XS.i2l X1.here hx rfl (hb hby at_28) rfl ?_
    show Steps p.tables e below (T1.setTop (mkF m 29 (LS_IIJsJsJsIIIuuuuuuuuuuuuuuuuuuuu p0 p1 q2 q3 q4 cp ((((p0.toUInt32 >>> ((1 : Int32) &&& 31).toUInt32).toInt32) &&& (3 : Int32)) % (3 : Int32)) sc) [(.long (sc.toInt64))])) _
    refine X1.ldc2Long hx hown (mvT hZ (hw _ (List.mem_of_getElem? (i := 5) rfl))) (g := (mkF m 29 (LS_IIJsJsJsIIIuuuuuuuuuuuuuuuuuuuu p0 p1 q2 q3 q4 cp ((((p0.toUInt32 >>> ((1 : Int32) &&& 31).toUInt32).toInt32) &&& (3 : Int32)) % (3 : Int32)) sc) [(.long (sc.toInt64))])) rfl (hb hby at_29) _ ?_
    refine XS.lmul X1.here hx rfl (hb hby at_32) rfl ?_
    refine XS.lstore X1.here hx rfl (hb hby at_33) rfl (l' := (LS_IIJsJsJsIIIJsuuuuuuuuuuuuuuuuuu p0 p1 q2 q3 q4 cp ((((p0.toUInt32 >>> ((1 : Int32) &&& 31).toUInt32).toInt32) &&& (3 : Int32)) % (3 : Int32)) sc ((sc.toInt64) * (1000 : Int64)))) rfl ?_
    show Steps p.tables e below (T1.setTop (mkF m 35 (LS_IIJsJsJsIIIJsuuuuuuuuuuuuuuuuuu p0 p1 q2 q3 q4 cp ((((p0.toUInt32 >>> ((1 : Int32) &&& 31).toUInt32).toInt32) &&& (3 : Int32)) % (3 : Int32)) sc ((sc.toInt64) * (1000 : Int64))) [])) _
    refine X1.ldc2Long hx hown (mvT hZ (hw _ (List.mem_of_getElem? (i := 6) rfl))) (g := (mkF m 35 (LS_IIJsJsJsIIIJsuuuuuuuuuuuuuuuuuu p0 p1 q2 q3 q4 cp ((((p0.toUInt32 >>> ((1 : Int32) &&& 31).toUInt32).toInt32) &&& (3 : Int32)) % (3 : Int32)) sc ((sc.toInt64) * (1000 : Int64))) [])) rfl (hb hby at_35) _ ?_
    refine XS.lload X1.here hx rfl (hb hby at_38) rfl ?_
    refine XS.lmul X1.here hx rfl (hb hby at_40) rfl ?_
    show Steps p.tables e below (T1.setTop (mkF m 41 (LS_IIJsJsJsIIIJsuuuuuuuuuuuuuuuuuu p0 p1 q2 q3 q4 cp ((((p0.toUInt32 >>> ((1 : Int32) &&& 31).toUInt32).toInt32) &&& (3 : Int32)) % (3 : Int32)) sc ((sc.toInt64) * (1000 : Int64))) [(.long ((2 : Int64) * ((sc.toInt64) * (1000 : Int64))))])) _
    refine XS.lconst X1.here hx rfl (hb hby at_41) ?_
    refine XS.ladd X1.here hx rfl (hb hby at_42) rfl ?_
    refine XS.lstore X1.here hx rfl (hb hby at_43) rfl (l' := (LS_IIJsJsJsIIIJsJsuuuuuuuuuuuuuuuu p0 p1 q2 q3 q4 cp ((((p0.toUInt32 >>> ((1 : Int32) &&& 31).toUInt32).toInt32) &&& (3 : Int32)) % (3 : Int32)) sc ((sc.toInt64) * (1000 : Int64)) (((2 : Int64) * ((sc.toInt64) * (1000 : Int64))) + (1 : Int64)))) rfl ?_
    show Steps p.tables e below (T1.setTop (mkF m 45 (LS_IIJsJsJsIIIJsJsuuuuuuuuuuuuuuuu p0 p1 q2 q3 q4 cp ((((p0.toUInt32 >>> ((1 : Int32) &&& 31).toUInt32).toInt32) &&& (3 : Int32)) % (3 : Int32)) sc ((sc.toInt64) * (1000 : Int64)) (((2 : Int64) * ((sc.toInt64) * (1000 : Int64))) + (1 : Int64))) [])) _
    refine XS.lloadN X1.here hx rfl (hb hby at_45) rfl ?_
    refine XS.iconst X1.here hx rfl (hb hby at_46) ?_
    refine XS.lshr X1.here hx rfl (hb hby at_47) rfl ?_
    show Steps p.tables e below (T1.setTop (mkF m 48 (LS_IIJsJsJsIIIJsJsuuuuuuuuuuuuuuuu p0 p1 q2 q3 q4 cp ((((p0.toUInt32 >>> ((1 : Int32) &&& 31).toUInt32).toInt32) &&& (3 : Int32)) % (3 : Int32)) sc ((sc.toInt64) * (1000 : Int64)) (((2 : Int64) * ((sc.toInt64) * (1000 : Int64))) + (1 : Int64))) [(.long (q2 >>> ((2 : Int32) &&& 0x3f).toInt64))])) _
    refine XS.lstore X1.here hx rfl (hb hby at_48) rfl (l' := (LS_IIJsJsJsIIIJsJsJsuuuuuuuuuuuuuu p0 p1 q2 q3 q4 cp ((((p0.toUInt32 >>> ((1 : Int32) &&& 31).toUInt32).toInt32) &&& (3 : Int32)) % (3 : Int32)) sc ((sc.toInt64) * (1000 : Int64)) (((2 : Int64) * ((sc.toInt64) * (1000 : Int64))) + (1 : Int64)) (q2 >>> ((2 : Int32) &&& 0x3f).toInt64))) rfl ?_
    refine XS.lload X1.here hx rfl (hb hby at_50) rfl ?_
    refine X1.ldc2Long hx hown (mvT hZ (hw _ (List.mem_of_getElem? (i := 7) rfl))) (g := (mkF m 52 (LS_IIJsJsJsIIIJsJsJsuuuuuuuuuuuuuu p0 p1 q2 q3 q4 cp ((((p0.toUInt32 >>> ((1 : Int32) &&& 31).toUInt32).toInt32) &&& (3 : Int32)) % (3 : Int32)) sc ((sc.toInt64) * (1000 : Int64)) (((2 : Int64) * ((sc.toInt64) * (1000 : Int64))) + (1 : Int64)) (q2 >>> ((2 : Int32) &&& 0x3f).toInt64)) [(.long q3)])) rfl (hb hby at_52) _ ?_
    show Steps p.tables e below (T1.setTop (mkF m 55 (LS_IIJsJsJsIIIJsJsJsuuuuuuuuuuuuuu p0 p1 q2 q3 q4 cp ((((p0.toUInt32 >>> ((1 : Int32) &&& 31).toUInt32).toInt32) &&& (3 : Int32)) % (3 : Int32)) sc ((sc.toInt64) * (1000 : Int64)) (((2 : Int64) * ((sc.toInt64) * (1000 : Int64))) + (1 : Int64)) (q2 >>> ((2 : Int32) &&& 0x3f).toInt64)) [(.long (140737488355327 : Int64)), (.long q3)])) _
    refine XS.land X1.here hx rfl (hb hby at_55) rfl ?_
    refine XS.lload X1.here hx rfl (hb hby at_56) rfl ?_
    refine XS.lrem X1.here hx rfl (hb hby at_58) rfl (own_snz (a := 0) hsp) ?_
    show Steps p.tables e below (T1.setTop (mkF m 59 (LS_IIJsJsJsIIIJsJsJsuuuuuuuuuuuuuu p0 p1 q2 q3 q4 cp ((((p0.toUInt32 >>> ((1 : Int32) &&& 31).toUInt32).toInt32) &&& (3 : Int32)) % (3 : Int32)) sc ((sc.toInt64) * (1000 : Int64)) (((2 : Int64) * ((sc.toInt64) * (1000 : Int64))) + (1 : Int64)) (q2 >>> ((2 : Int32) &&& 0x3f).toInt64)) [(.long ((q3 &&& (140737488355327 : Int64)) - ((q3 &&& (140737488355327 : Int64)) / (((2 : Int64) * ((sc.toInt64) * (1000 : Int64))) + (1 : Int64))) * (((2 : Int64) * ((sc.toInt64) * (1000 : Int64))) + (1 : Int64))))])) _
    refine XS.lstore X1.here hx rfl (hb hby at_59) rfl (l' := (LS_IIJsJsJsIIIJsJsJsJsuuuuuuuuuuuu p0 p1 q2 q3 q4 cp ((((p0.toUInt32 >>> ((1 : Int32) &&& 31).toUInt32).toInt32) &&& (3 : Int32)) % (3 : Int32)) sc ((sc.toInt64) * (1000 : Int64)) (((2 : Int64) * ((sc.toInt64) * (1000 : Int64))) + (1 : Int64)) (q2 >>> ((2 : Int32) &&& 0x3f).toInt64) ((q3 &&& (140737488355327 : Int64)) - ((q3 &&& (140737488355327 : Int64)) / (((2 : Int64) * ((sc.toInt64) * (1000 : Int64))) + (1 : Int64))) * (((2 : Int64) * ((sc.toInt64) * (1000 : Int64))) + (1 : Int64))))) rfl ?_
    refine XS.lload X1.here hx rfl (hb hby at_61) rfl ?_
    refine X1.ldc2Long hx hown (mvT hZ (hw _ (List.mem_of_getElem? (i := 7) rfl))) (g := (mkF m 63 (LS_IIJsJsJsIIIJsJsJsJsuuuuuuuuuuuu p0 p1 q2 q3 q4 cp ((((p0.toUInt32 >>> ((1 : Int32) &&& 31).toUInt32).toInt32) &&& (3 : Int32)) % (3 : Int32)) sc ((sc.toInt64) * (1000 : Int64)) (((2 : Int64) * ((sc.toInt64) * (1000 : Int64))) + (1 : Int64)) (q2 >>> ((2 : Int32) &&& 0x3f).toInt64) ((q3 &&& (140737488355327 : Int64)) - ((q3 &&& (140737488355327 : Int64)) / (((2 : Int64) * ((sc.toInt64) * (1000 : Int64))) + (1 : Int64))) * (((2 : Int64) * ((sc.toInt64) * (1000 : Int64))) + (1 : Int64)))) [(.long q4)])) rfl (hb hby at_63) _ ?_
    show Steps p.tables e below (T1.setTop (mkF m 66 (LS_IIJsJsJsIIIJsJsJsJsuuuuuuuuuuuu p0 p1 q2 q3 q4 cp ((((p0.toUInt32 >>> ((1 : Int32) &&& 31).toUInt32).toInt32) &&& (3 : Int32)) % (3 : Int32)) sc ((sc.toInt64) * (1000 : Int64)) (((2 : Int64) * ((sc.toInt64) * (1000 : Int64))) + (1 : Int64)) (q2 >>> ((2 : Int32) &&& 0x3f).toInt64) ((q3 &&& (140737488355327 : Int64)) - ((q3 &&& (140737488355327 : Int64)) / (((2 : Int64) * ((sc.toInt64) * (1000 : Int64))) + (1 : Int64))) * (((2 : Int64) * ((sc.toInt64) * (1000 : Int64))) + (1 : Int64)))) [(.long (140737488355327 : Int64)), (.long q4)])) _
    refine XS.land X1.here hx rfl (hb hby at_66) rfl ?_
    refine XS.lload X1.here hx rfl (hb hby at_67) rfl ?_
    refine XS.lrem X1.here hx rfl (hb hby at_69) rfl (own_snz (a := 0) hsp) ?_
    show Steps p.tables e below (T1.setTop (mkF m 70 (LS_IIJsJsJsIIIJsJsJsJsuuuuuuuuuuuu p0 p1 q2 q3 q4 cp ((((p0.toUInt32 >>> ((1 : Int32) &&& 31).toUInt32).toInt32) &&& (3 : Int32)) % (3 : Int32)) sc ((sc.toInt64) * (1000 : Int64)) (((2 : Int64) * ((sc.toInt64) * (1000 : Int64))) + (1 : Int64)) (q2 >>> ((2 : Int32) &&& 0x3f).toInt64) ((q3 &&& (140737488355327 : Int64)) - ((q3 &&& (140737488355327 : Int64)) / (((2 : Int64) * ((sc.toInt64) * (1000 : Int64))) + (1 : Int64))) * (((2 : Int64) * ((sc.toInt64) * (1000 : Int64))) + (1 : Int64)))) [(.long ((q4 &&& (140737488355327 : Int64)) - ((q4 &&& (140737488355327 : Int64)) / (((2 : Int64) * ((sc.toInt64) * (1000 : Int64))) + (1 : Int64))) * (((2 : Int64) * ((sc.toInt64) * (1000 : Int64))) + (1 : Int64))))])) _
    refine XS.lstore X1.here hx rfl (hb hby at_70) rfl (l' := (LS_IIJsJsJsIIIJsJsJsJsJsuuuuuuuuuu p0 p1 q2 q3 q4 cp ((((p0.toUInt32 >>> ((1 : Int32) &&& 31).toUInt32).toInt32) &&& (3 : Int32)) % (3 : Int32)) sc ((sc.toInt64) * (1000 : Int64)) (((2 : Int64) * ((sc.toInt64) * (1000 : Int64))) + (1 : Int64)) (q2 >>> ((2 : Int32) &&& 0x3f).toInt64) ((q3 &&& (140737488355327 : Int64)) - ((q3 &&& (140737488355327 : Int64)) / (((2 : Int64) * ((sc.toInt64) * (1000 : Int64))) + (1 : Int64))) * (((2 : Int64) * ((sc.toInt64) * (1000 : Int64))) + (1 : Int64))) ((q4 &&& (140737488355327 : Int64)) - ((q4 &&& (140737488355327 : Int64)) / (((2 : Int64) * ((sc.toInt64) * (1000 : Int64))) + (1 : Int64))) * (((2 : Int64) * ((sc.toInt64) * (1000 : Int64))) + (1 : Int64))))) rfl ?_
    refine XS.lload X1.here hx rfl (hb hby at_72) rfl ?_
    refine XS.lload X1.here hx rfl (hb hby at_74) rfl ?_
    show Steps p.tables e below (T1.setTop (mkF m 76 (LS_IIJsJsJsIIIJsJsJsJsJsuuuuuuuuuu p0 p1 q2 q3 q4 cp ((((p0.toUInt32 >>> ((1 : Int32) &&& 31).toUInt32).toInt32) &&& (3 : Int32)) % (3 : Int32)) sc ((sc.toInt64) * (1000 : Int64)) (((2 : Int64) * ((sc.toInt64) * (1000 : Int64))) + (1 : Int64)) (q2 >>> ((2 : Int32) &&& 0x3f).toInt64) ((q3 &&& (140737488355327 : Int64)) - ((q3 &&& (140737488355327 : Int64)) / (((2 : Int64) * ((sc.toInt64) * (1000 : Int64))) + (1 : Int64))) * (((2 : Int64) * ((sc.toInt64) * (1000 : Int64))) + (1 : Int64))) ((q4 &&& (140737488355327 : Int64)) - ((q4 &&& (140737488355327 : Int64)) / (((2 : Int64) * ((sc.toInt64) * (1000 : Int64))) + (1 : Int64))) * (((2 : Int64) * ((sc.toInt64) * (1000 : Int64))) + (1 : Int64)))) [(.long ((q3 &&& (140737488355327 : Int64)) - ((q3 &&& (140737488355327 : Int64)) / (((2 : Int64) * ((sc.toInt64) * (1000 : Int64))) + (1 : Int64))) * (((2 : Int64) * ((sc.toInt64) * (1000 : Int64))) + (1 : Int64)))), (.long (q2 >>> ((2 : Int32) &&& 0x3f).toInt64))])) _
    refine XS.ladd X1.here hx rfl (hb hby at_76) rfl ?_
    refine XS.lstore X1.here hx rfl (hb hby at_77) rfl (l' := (LS_IIJsJsJsIIIJsJsJsJsJsJsuuuuuuuu p0 p1 q2 q3 q4 cp ((((p0.toUInt32 >>> ((1 : Int32) &&& 31).toUInt32).toInt32) &&& (3 : Int32)) % (3 : Int32)) sc ((sc.toInt64) * (1000 : Int64)) (((2 : Int64) * ((sc.toInt64) * (1000 : Int64))) + (1 : Int64)) (q2 >>> ((2 : Int32) &&& 0x3f).toInt64) ((q3 &&& (140737488355327 : Int64)) - ((q3 &&& (140737488355327 : Int64)) / (((2 : Int64) * ((sc.toInt64) * (1000 : Int64))) + (1 : Int64))) * (((2 : Int64) * ((sc.toInt64) * (1000 : Int64))) + (1 : Int64))) ((q4 &&& (140737488355327 : Int64)) - ((q4 &&& (140737488355327 : Int64)) / (((2 : Int64) * ((sc.toInt64) * (1000 : Int64))) + (1 : Int64))) * (((2 : Int64) * ((sc.toInt64) * (1000 : Int64))) + (1 : Int64))) ((q2 >>> ((2 : Int32) &&& 0x3f).toInt64) + ((q3 &&& (140737488355327 : Int64)) - ((q3 &&& (140737488355327 : Int64)) / (((2 : Int64) * ((sc.toInt64) * (1000 : Int64))) + (1 : Int64))) * (((2 : Int64) * ((sc.toInt64) * (1000 : Int64))) + (1 : Int64)))))) rfl ?_
    exact k
  obtain ⟨t2, e_t2⟩ : ∃ z, z = ((q2 >>> ((2 : Int32) &&& 0x3f).toInt64) + ((q3 &&& (140737488355327 : Int64)) - ((q3 &&& (140737488355327 : Int64)) / (((2 : Int64) * ((sc.toInt64) * (1000 : Int64))) + (1 : Int64))) * (((2 : Int64) * ((sc.toInt64) * (1000 : Int64))) + (1 : Int64)))) := ⟨_, rfl⟩
  obtain ⟨t1, e_t1⟩ : ∃ z, z = (q2 >>> ((2 : Int32) &&& 0x3f).toInt64) := ⟨_, rfl⟩
  obtain ⟨dd, e_dd⟩ : ∃ z, z = ((q3 &&& (140737488355327 : Int64)) - ((q3 &&& (140737488355327 : Int64)) / (((2 : Int64) * ((sc.toInt64) * (1000 : Int64))) + (1 : Int64))) * (((2 : Int64) * ((sc.toInt64) * (1000 : Int64))) + (1 : Int64))) := ⟨_, rfl⟩
  obtain ⟨ee, e_ee⟩ : ∃ z, z = ((q4 &&& (140737488355327 : Int64)) - ((q4 &&& (140737488355327 : Int64)) / (((2 : Int64) * ((sc.toInt64) * (1000 : Int64))) + (1 : Int64))) * (((2 : Int64) * ((sc.toInt64) * (1000 : Int64))) + (1 : Int64))) := ⟨_, rfl⟩
  refine own_go (B := T1.setTop (mkF m 79 (LS_IIJsJsJsIIIJsJsJsJsJsJsuuuuuuuu p0 p1 q2 q3 q4 cp ((((p0.toUInt32 >>> ((1 : Int32) &&& 31).toUInt32).toInt32) &&& (3 : Int32)) % (3 : Int32)) sc ((sc.toInt64) * (1000 : Int64)) (((2 : Int64) * ((sc.toInt64) * (1000 : Int64))) + (1 : Int64)) t1 dd ee t2) [])) (fun t k => by rw [e_t2, e_t1, e_dd, e_ee] at k; exact k) ?_
  have ht12 : t2 = t1 + dd := by rw [e_t2, e_t1, e_dd]
  have hb0 : -2305843009213693952 ≤ t1.toInt ∧ t1.toInt < 2305843009213693952 := by rw [e_t1]; exact own_t0 _
  have hdd : 0 ≤ dd.toInt ∧ dd.toInt ≤ 4294967294001 := by rw [e_dd]; exact own_rd _ _ hsp
  have ha12 : t2.toInt = t1.toInt + dd.toInt := by rw [ht12]; exact own_add12 hb0 hdd
  have hv1 : -4611686018427387904 ≤ t1.toInt := by omega
  have hv12 : t1.toInt ≤ t2.toInt := by omega
  have hv2 : t2.toInt ≤ 4611686018427387904 := by omega
  have hdw := own_dw (w := ((sc.toInt64) * (1000 : Int64))) ht12 hb0 hdd hw1
  have htwo := own_two hcp
  obtain ⟨T2, h2, X2, e2, E2, A2, D2, -, st2⟩ := newO X1 hx hZ hown (hw _ (List.mem_of_getElem? (i := 8) rfl)) (hw _ (List.mem_of_getElem? (i := 9) rfl)) (hw _ (List.mem_of_getElem? (i := 10) rfl)) e1 (g := (mkF m 79 (LS_IIJsJsJsIIIJsJsJsJsJsJsuuuuuuuu p0 p1 q2 q3 q4 cp ((((p0.toUInt32 >>> ((1 : Int32) &&& 31).toUInt32).toInt32) &&& (3 : Int32)) % (3 : Int32)) sc ((sc.toInt64) * (1000 : Int64)) (((2 : Int64) * ((sc.toInt64) * (1000 : Int64))) + (1 : Int64)) t1 dd ee t2) [])) rfl (hb hby at_79) (by decide) (by decide)
  obtain ⟨b2, g2⟩ : ∃ z, z = h0.size := ⟨_, rfl⟩
  rw [← g2] at A2 D2 st2
  have g_b2 : n0 ≤ b2 := Nat.le_trans Z0 (Nat.le_of_eq g2.symm)
  have F2_admitted : Fld Z h2 b2 "com/example/blend2/blend2/SlidingWindowLog" "admitted" "Ljava/util/ArrayDeque;" .null := D2 (Or.inr (hw _ (List.mem_of_getElem? (i := 83) rfl))) (ty := (.object "java/util/ArrayDeque")) (by decide)
  have F2_rule : Fld Z h2 b2 "com/example/blend2/blend2/SlidingWindowLog" "rule" "Lcom/example/blend2/blend2/Rule;" .null := D2 (Or.inr (hw _ (List.mem_of_getElem? (i := 85) rfl))) (ty := (.object "com/example/blend2/blend2/Rule")) (by decide)
  have F2_windowMillis : Fld Z h2 b2 "com/example/blend2/blend2/SlidingWindowLog" "windowMillis" "J" (.long (0 : Int64)) := D2 (Or.inr (hw _ (List.mem_of_getElem? (i := 93) rfl))) (ty := .long) (by decide)
  refine own_go (B := T2.setTop (mkF m 82 (LS_IIJsJsJsIIIJsJsJsJsJsJsuuuuuuuu p0 p1 q2 q3 q4 cp ((((p0.toUInt32 >>> ((1 : Int32) &&& 31).toUInt32).toInt32) &&& (3 : Int32)) % (3 : Int32)) sc ((sc.toInt64) * (1000 : Int64)) (((2 : Int64) * ((sc.toInt64) * (1000 : Int64))) + (1 : Int64)) t1 dd ee t2) [(.ref b2)])) (fun t k => st2 _ k) ?_
  refine own_go (B := T2.setTop (mkF m 83 (LS_IIJsJsJsIIIJsJsJsJsJsJsuuuuuuuu p0 p1 q2 q3 q4 cp ((((p0.toUInt32 >>> ((1 : Int32) &&& 31).toUInt32).toInt32) &&& (3 : Int32)) % (3 : Int32)) sc ((sc.toInt64) * (1000 : Int64)) (((2 : Int64) * ((sc.toInt64) * (1000 : Int64))) + (1 : Int64)) t1 dd ee t2) [(.ref b2), (.ref b2)])) (fun t k => ?_) ?_
  · refine XS.dup X2.here hx rfl (hb hby at_82) rfl rfl ?_
    exact k
  obtain ⟨T3, h3, X3, e3, E3, A3, D3, -, st3⟩ := newO X2 hx hZ hown (hw _ (List.mem_of_getElem? (i := 11) rfl)) (hw _ (List.mem_of_getElem? (i := 12) rfl)) (hw _ (List.mem_of_getElem? (i := 13) rfl)) e2 (g := (mkF m 83 (LS_IIJsJsJsIIIJsJsJsJsJsJsuuuuuuuu p0 p1 q2 q3 q4 cp ((((p0.toUInt32 >>> ((1 : Int32) &&& 31).toUInt32).toInt32) &&& (3 : Int32)) % (3 : Int32)) sc ((sc.toInt64) * (1000 : Int64)) (((2 : Int64) * ((sc.toInt64) * (1000 : Int64))) + (1 : Int64)) t1 dd ee t2) [(.ref b2), (.ref b2)])) rfl (hb hby at_83) (by decide) (by decide)
  obtain ⟨b3, g3⟩ : ∃ z, z = h2.size := ⟨_, rfl⟩
  rw [← g3] at A3 D3 st3
  have Z0_v4 := Nat.le_trans Z0 E2.1
  have g_b3 : n0 ≤ b3 := Nat.le_trans Z0_v4 (Nat.le_of_eq g3.symm)
  have F3_name : Fld Z h3 b3 "com/example/blend2/blend2/Rule" "name" "Ljava/lang/String;" .null := D3 (Or.inr (hw _ (List.mem_of_getElem? (i := 52) rfl))) (ty := (.object "java/lang/String")) (by decide)
  have F3_capacity : Fld Z h3 b3 "com/example/blend2/blend2/Rule" "capacity" "I" (.int (0 : Int32)) := D3 (Or.inr (hw _ (List.mem_of_getElem? (i := 54) rfl))) (ty := .int) (by decide)
  have F3_timeWindowSec : Fld Z h3 b3 "com/example/blend2/blend2/Rule" "timeWindowSec" "I" (.int (0 : Int32)) := D3 (Or.inr (hw _ (List.mem_of_getElem? (i := 56) rfl))) (ty := .int) (by decide)
  have F3_algorithm : Fld Z h3 b3 "com/example/blend2/blend2/Rule" "algorithm" "Lcom/example/blend2/blend2/Algorithm;" .null := D3 (Or.inr (hw _ (List.mem_of_getElem? (i := 58) rfl))) (ty := (.object "com/example/blend2/blend2/Algorithm")) (by decide)
  have F3_onStoreFailure : Fld Z h3 b3 "com/example/blend2/blend2/Rule" "onStoreFailure" "Lcom/example/blend2/blend2/StoreFailurePolicy;" .null := D3 (Or.inr (hw _ (List.mem_of_getElem? (i := 60) rfl))) (ty := (.object "com/example/blend2/blend2/StoreFailurePolicy")) (by decide)
  refine own_go (B := T3.setTop (mkF m 86 (LS_IIJsJsJsIIIJsJsJsJsJsJsuuuuuuuu p0 p1 q2 q3 q4 cp ((((p0.toUInt32 >>> ((1 : Int32) &&& 31).toUInt32).toInt32) &&& (3 : Int32)) % (3 : Int32)) sc ((sc.toInt64) * (1000 : Int64)) (((2 : Int64) * ((sc.toInt64) * (1000 : Int64))) + (1 : Int64)) t1 dd ee t2) [(.ref b3), (.ref b2), (.ref b2)])) (fun t k => st3 _ k) ?_
  refine own_go (B := T3.setTop (mkF m 87 (LS_IIJsJsJsIIIJsJsJsJsJsJsuuuuuuuu p0 p1 q2 q3 q4 cp ((((p0.toUInt32 >>> ((1 : Int32) &&& 31).toUInt32).toInt32) &&& (3 : Int32)) % (3 : Int32)) sc ((sc.toInt64) * (1000 : Int64)) (((2 : Int64) * ((sc.toInt64) * (1000 : Int64))) + (1 : Int64)) t1 dd ee t2) [(.ref b3), (.ref b3), (.ref b2), (.ref b2)])) (fun t k => ?_) ?_
  · refine XS.dup X3.here hx rfl (hb hby at_86) rfl rfl ?_
    exact k
  have hk0_v6 := Nat.le_trans hk0 E2.1
  have hk0_v7 := Nat.le_trans hk0_v6 E3.1
  obtain ⟨sa5, T5, h5, kk5, X5, e5, E5, hS5, hk5, hZ5, ho5, st5⟩ := ldcS (s := s) (vm0 := s.vm) X3 hx hZ hown (hw _ (List.mem_of_getElem? (i := 14) rfl)) (own_strs hw) e3 hS0 hk0_v7 (g := (mkF m 87 (LS_IIJsJsJsIIIJsJsJsJsJsJsuuuuuuuu p0 p1 q2 q3 q4 cp ((((p0.toUInt32 >>> ((1 : Int32) &&& 31).toUInt32).toInt32) &&& (3 : Int32)) % (3 : Int32)) sc ((sc.toInt64) * (1000 : Int64)) (((2 : Int64) * ((sc.toInt64) * (1000 : Int64))) + (1 : Int64)) t1 dd ee t2) [(.ref b3), (.ref b3), (.ref b2), (.ref b2)])) rfl (hb hby at_87) (n := 4) (by decide) (by decide) (by decide) (by decide)
  refine own_go (B := T5.setTop (mkF m 89 (LS_IIJsJsJsIIIJsJsJsJsJsJsuuuuuuuu p0 p1 q2 q3 q4 cp ((((p0.toUInt32 >>> ((1 : Int32) &&& 31).toUInt32).toInt32) &&& (3 : Int32)) % (3 : Int32)) sc ((sc.toInt64) * (1000 : Int64)) (((2 : Int64) * ((sc.toInt64) * (1000 : Int64))) + (1 : Int64)) t1 dd ee t2) [(.ref sa5), (.ref b3), (.ref b3), (.ref b2), (.ref b2)])) (fun t k => st5 _ k) ?_
  refine own_go (B := T5.setTop (mkF m 93 (LS_IIJsJsJsIIIJsJsJsJsJsJsuuuuuuuu p0 p1 q2 q3 q4 cp ((((p0.toUInt32 >>> ((1 : Int32) &&& 31).toUInt32).toInt32) &&& (3 : Int32)) % (3 : Int32)) sc ((sc.toInt64) * (1000 : Int64)) (((2 : Int64) * ((sc.toInt64) * (1000 : Int64))) + (1 : Int64)) t1 dd ee t2) [(.int sc), (.int cp), (.ref sa5), (.ref b3), (.ref b3), (.ref b2), (.ref b2)])) (fun t k => ?_) ?_
  · refine XS.iload X5.here hx rfl (hb hby at_89) rfl ?_
    refine XS.iload X5.here hx rfl (hb hby at_91) rfl ?_
    exact k
  have S_Rule_DEFAULT_ALGORITHM_v8 := S_Rule_DEFAULT_ALGORITHM.ext E2
  have S_Rule_DEFAULT_ALGORITHM_v9 := S_Rule_DEFAULT_ALGORITHM_v8.ext E3
  have S_Rule_DEFAULT_ALGORITHM_v10 := S_Rule_DEFAULT_ALGORITHM_v9.ext E5
  have S_Rule_DEFAULT_STORE_FAILURE_POLICY_v11 := S_Rule_DEFAULT_STORE_FAILURE_POLICY.ext E2
  have S_Rule_DEFAULT_STORE_FAILURE_POLICY_v12 := S_Rule_DEFAULT_STORE_FAILURE_POLICY_v11.ext E3
  have S_Rule_DEFAULT_STORE_FAILURE_POLICY_v13 := S_Rule_DEFAULT_STORE_FAILURE_POLICY_v12.ext E5
  have Z0_v14 := Nat.le_trans Z0_v4 E3.1
  have Z0_v15 := Nat.le_trans Z0_v14 E5.1
  have A3_v16 := A3.ext E5
  have F3_name_v17 := F3_name.ext E5
  have F3_capacity_v18 := F3_capacity.ext E5
  have F3_timeWindowSec_v19 := F3_timeWindowSec.ext E5
  have F3_algorithm_v20 := F3_algorithm.ext E5
  have F3_onStoreFailure_v21 := F3_onStoreFailure.ext E5
  obtain ⟨_, _, ⟨T22, L22, k22, n22⟩, -, X22, hs22, hg22, ⟨Lc22, hQ22, l22, y22, z22⟩, st22⟩ := X5.specialBackS hx (y := (⟨"com/example/blend2/blend2/Rule", "<init>", "(Ljava/lang/String;II)V"⟩ : MethodName)) rfl ho5 (mvT hZ5 (hw _ (List.mem_of_getElem? (i := 22) rfl))) (mvT hZ5 (hw _ (List.mem_of_getElem? (i := 23) rfl))) (mvT hZ5 (hw _ (List.mem_of_getElem? (i := 24) rfl))) (by decide) (backOfS (W := 3) (rmru3 l Z a0 hw [] b3 sa5 cp sc w_Algorithm_SLIDING_WINDOW_LOG w_StoreFailurePolicy_OPEN h5 n0 Z0_v15 S_Rule_DEFAULT_ALGORITHM_v10 S_Rule_DEFAULT_STORE_FAILURE_POLICY_v13 A3_v16 F3_name_v17 F3_capacity_v18 F3_timeWindowSec_v19 F3_algorithm_v20 F3_onStoreFailure_v21 (own_ge1 hcp.1) (own_ge1 hsc) g_b3) hZ5 (hw _ (List.mem_of_getElem? (i := 24) rfl)) (hw _ (List.mem_of_getElem? (i := 13) rfl)) (by decide) (by decide)) (g := (mkF m 93 (LS_IIJsJsJsIIIJsJsJsJsJsJsuuuuuuuu p0 p1 q2 q3 q4 cp ((((p0.toUInt32 >>> ((1 : Int32) &&& 31).toUInt32).toInt32) &&& (3 : Int32)) % (3 : Int32)) sc ((sc.toInt64) * (1000 : Int64)) (((2 : Int64) * ((sc.toInt64) * (1000 : Int64))) + (1 : Int64)) t1 dd ee t2) [(.int sc), (.int cp), (.ref sa5), (.ref b3), (.ref b3), (.ref b2), (.ref b2)])) rfl (by rw [hml]; rfl) (Steps.refl _) (a := b3) (argsL := [(.ref sa5), (.int cp), (.int sc)]) (rest := [(.ref b3), (.ref b2), (.ref b2)]) (lenOf pd__Ljava_lang_String_II_V rfl) rfl (by show 2 * 0 + _ ≤ _; exact Nat.le_of_eq rfl) (hb hby at_93) (fun _ _ => ⟨rfl, e5, (by decide : 4 + 6 ≤ _), (by decide : 16 + 120 ≤ _)⟩)
  dsimp only [Pt.U, Pt.locs, Pt.cells, Pt.slots] at X22 l22 y22 z22 st22 hQ22 hs22 hg22
  subst l22 y22 z22
  have hS22 : s.Since T22.vm T22.heap.size := foldS (s := s) (vm0 := T5.vm) (T := T5) (U := T22) hS5 (by rw [e5]; exact hk5) hs22 hg22
  have hZ22 : Z.Warmed39 (s.setVm T22.vm).vm := State.Warmed39.trans (t := s.setVm T5.vm) hZ5 hs22.1
  have ho22 : (s.setVm T22.vm).vm.findClass "com/example/blend2/blend2/SlidingWindowLogIsIdleAtPinLaw" = some m.cls := by rw [show (s.setVm T22.vm).vm = T22.vm from rfl, hs22.1.alike.findClass]; exact ho5
  obtain ⟨rfl, N22q, K22, Fc22, Ft22⟩ := hQ22
  have N22 := Fr.app N1 N22q
  have hk22 : T22.heap.size ≤ T22.heap.size := Nat.le_refl _
  refine own_go (B := T22.setTop (mkF m 96 (LS_IIJsJsJsIIIJsJsJsJsJsJsuuuuuuuu p0 p1 q2 q3 q4 cp ((((p0.toUInt32 >>> ((1 : Int32) &&& 31).toUInt32).toInt32) &&& (3 : Int32)) % (3 : Int32)) sc ((sc.toInt64) * (1000 : Int64)) (((2 : Int64) * ((sc.toInt64) * (1000 : Int64))) + (1 : Int64)) t1 dd ee t2) [(.ref b3), (.ref b2), (.ref b2)])) (fun t k => st22.trans k) ?_
  have Z0_v23 := Nat.le_trans Z0_v15 K22.1
  have A2_v24 := A2.ext E3
  have A2_v25 := A2_v24.ext E5
  have A2_v26 := A2_v25.keep K22
  have A3_v27 := A3_v16.keep K22
  have F2_admitted_v28 := F2_admitted.ext E3
  have F2_admitted_v29 := F2_admitted_v28.ext E5
  have ne31 : b2 ≠ b3 := Exa.ne A2_v24 A3 (by decide)
  have F2_admitted_v30 := F2_admitted_v29.keep K22 (ninS ne31 nin0)
  have F2_rule_v32 := F2_rule.ext E3
  have F2_rule_v33 := F2_rule_v32.ext E5
  have F2_rule_v34 := F2_rule_v33.keep K22 (ninS ne31 nin0)
  have F2_windowMillis_v35 := F2_windowMillis.ext E3
  have F2_windowMillis_v36 := F2_windowMillis_v35.ext E5
  have F2_windowMillis_v37 := F2_windowMillis_v36.keep K22 (ninS ne31 nin0)
  obtain ⟨_, _, ⟨T38, L38, k38, n38⟩, -, X38, ⟨Lc38, hQ38, l38, y38, z38⟩, st38⟩ := X22.specialBack hx (y := (⟨"com/example/blend2/blend2/SlidingWindowLog", "<init>", "(Lcom/example/blend2/blend2/Rule;)V"⟩ : MethodName)) rfl ho22 (mvT hZ22 (hw _ (List.mem_of_getElem? (i := 61) rfl))) (mvT hZ22 (hw _ (List.mem_of_getElem? (i := 62) rfl))) (mvT hZ22 (hw _ (List.mem_of_getElem? (i := 63) rfl))) (by decide) (backOf (W := 1) (rmswi l Z a0 hw [] b2 b3 sc T22.heap n0 Z0_v23 A2_v26 A3_v27 Ft22 F2_admitted_v30 F2_rule_v34 F2_windowMillis_v37 g_b2) hZ22 (hw _ (List.mem_of_getElem? (i := 63) rfl)) (hw _ (List.mem_of_getElem? (i := 10) rfl)) (by decide) (by decide)) (g := (mkF m 96 (LS_IIJsJsJsIIIJsJsJsJsJsJsuuuuuuuu p0 p1 q2 q3 q4 cp ((((p0.toUInt32 >>> ((1 : Int32) &&& 31).toUInt32).toInt32) &&& (3 : Int32)) % (3 : Int32)) sc ((sc.toInt64) * (1000 : Int64)) (((2 : Int64) * ((sc.toInt64) * (1000 : Int64))) + (1 : Int64)) t1 dd ee t2) [(.ref b3), (.ref b2), (.ref b2)])) rfl (by rw [hml]; rfl) (Steps.refl _) (a := b2) (argsL := [(.ref b3)]) (rest := [(.ref b2)]) (lenOf pd__Lcom_example_blend2_blend2_Rule__V rfl) rfl (by show 2 * 0 + _ ≤ _; exact Nat.le_of_eq rfl) (hb hby at_96) (fun _ _ => ⟨rfl, rfl, (by decide : 10 + 2 ≤ _), (by decide : 136 + 20 ≤ _)⟩)
  dsimp only [Pt.U, Pt.locs, Pt.cells, Pt.slots] at X38 l38 y38 z38 st38 hQ38
  subst l38 y38 z38
  obtain ⟨da38, ea38, ka38, rfl, N38q, K38, hfd38, hfe38, Ed38, Fe38, Fh38, Ft38, Va38, Ov38, Fd38, Fr38, Fm38⟩ := hQ38
  have N38 := Fr.app N22 N38q
  have g_da38 : n0 ≤ da38 := Nat.le_trans Z0_v23 hfd38
  have g_ea38 : n0 ≤ ea38 := Nat.le_trans Z0_v23 hfe38
  refine own_go (B := T38.setTop (mkF m 99 (LS_IIJsJsJsIIIJsJsJsJsJsJsuuuuuuuu p0 p1 q2 q3 q4 cp ((((p0.toUInt32 >>> ((1 : Int32) &&& 31).toUInt32).toInt32) &&& (3 : Int32)) % (3 : Int32)) sc ((sc.toInt64) * (1000 : Int64)) (((2 : Int64) * ((sc.toInt64) * (1000 : Int64))) + (1 : Int64)) t1 dd ee t2) [(.ref b2)])) (fun t k => st38.trans k) ?_
  refine own_go (B := T38.setTop (mkF m 107 (LS_IIJsJsJsIIIJsJsJsJsJsJsRJsuuuuu p0 p1 q2 q3 q4 cp ((((p0.toUInt32 >>> ((1 : Int32) &&& 31).toUInt32).toInt32) &&& (3 : Int32)) % (3 : Int32)) sc ((sc.toInt64) * (1000 : Int64)) (((2 : Int64) * ((sc.toInt64) * (1000 : Int64))) + (1 : Int64)) t1 dd ee t2 b2 t1) [(.int ((((p0.toUInt32 >>> ((1 : Int32) &&& 31).toUInt32).toInt32) &&& (3 : Int32)) % (3 : Int32)))])) (fun t k => ?_) ?_
  · refine XS.astore X38.here hx rfl (hb hby at_99) rfl rfl (l' := (LS_IIJsJsJsIIIJsJsJsJsJsJsRuuuuuuu p0 p1 q2 q3 q4 cp ((((p0.toUInt32 >>> ((1 : Int32) &&& 31).toUInt32).toInt32) &&& (3 : Int32)) % (3 : Int32)) sc ((sc.toInt64) * (1000 : Int64)) (((2 : Int64) * ((sc.toInt64) * (1000 : Int64))) + (1 : Int64)) t1 dd ee t2 b2)) rfl ?_
    refine XS.lload X38.here hx rfl (hb hby at_101) rfl ?_
    show Steps p.tables e below (T38.setTop (mkF m 103 (LS_IIJsJsJsIIIJsJsJsJsJsJsRuuuuuuu p0 p1 q2 q3 q4 cp ((((p0.toUInt32 >>> ((1 : Int32) &&& 31).toUInt32).toInt32) &&& (3 : Int32)) % (3 : Int32)) sc ((sc.toInt64) * (1000 : Int64)) (((2 : Int64) * ((sc.toInt64) * (1000 : Int64))) + (1 : Int64)) t1 dd ee t2 b2) [(.long t1)])) _
    refine XS.lstore X38.here hx rfl (hb hby at_103) rfl (l' := (LS_IIJsJsJsIIIJsJsJsJsJsJsRJsuuuuu p0 p1 q2 q3 q4 cp ((((p0.toUInt32 >>> ((1 : Int32) &&& 31).toUInt32).toInt32) &&& (3 : Int32)) % (3 : Int32)) sc ((sc.toInt64) * (1000 : Int64)) (((2 : Int64) * ((sc.toInt64) * (1000 : Int64))) + (1 : Int64)) t1 dd ee t2 b2 t1)) rfl ?_
    refine XS.iload X38.here hx rfl (hb hby at_105) rfl ?_
    exact k
  rcases own_m3 ((p0.toUInt32 >>> ((1 : Int32) &&& 31).toUInt32).toInt32) with hk39 | hk39 | hk39
  · refine own_go (B := T38.setTop (mkF m 107 (LS_IIJsJsJsIIIJsJsJsJsJsJsRJsuuuuu p0 p1 q2 q3 q4 cp (0 : Int32) sc ((sc.toInt64) * (1000 : Int64)) (((2 : Int64) * ((sc.toInt64) * (1000 : Int64))) + (1 : Int64)) t1 dd ee t2 b2 t1) [(.int (0 : Int32))])) (fun t k => by rw [hk39]; exact k) ?_
    refine own_go (B := T38.setTop (mkF m 205 (LS_IIJsJsJsIIIJsJsJsJsJsJsRJsJsIuu p0 p1 q2 q3 q4 cp (0 : Int32) sc ((sc.toInt64) * (1000 : Int64)) (((2 : Int64) * ((sc.toInt64) * (1000 : Int64))) + (1 : Int64)) t1 dd ee t2 b2 t1 (t1 + ee) (1 : Int32)) [(.long (t1 + ee)), (.ref b2)])) (fun t k => ?_) ?_
    · refine XS.iconst X38.here hx rfl (hb hby at_107) ?_
      refine XS.icmpYes X38.here hx rfl (pc0 := 108) (pc' := 119) rfl (hb hby at_108) rfl (tlt (by decide : (0 : Int32) < (1 : Int32))).1 (by decide) (by decide) ?_
      show Steps p.tables e below (T38.setTop (mkF m 119 (LS_IIJsJsJsIIIJsJsJsJsJsJsRJsuuuuu p0 p1 q2 q3 q4 cp (0 : Int32) sc ((sc.toInt64) * (1000 : Int64)) (((2 : Int64) * ((sc.toInt64) * (1000 : Int64))) + (1 : Int64)) t1 dd ee t2 b2 t1) [])) _
      refine XS.iload X38.here hx rfl (hb hby at_119) rfl ?_
      refine XS.iconst X38.here hx rfl (hb hby at_121) ?_
      refine XS.icmpYes X38.here hx rfl (pc0 := 122) (pc' := 137) rfl (hb hby at_122) rfl (feq (by decide : ¬ ((0 : Int32) = (2 : Int32)))).2 (by decide) (by decide) ?_
      show Steps p.tables e below (T38.setTop (mkF m 137 (LS_IIJsJsJsIIIJsJsJsJsJsJsRJsuuuuu p0 p1 q2 q3 q4 cp (0 : Int32) sc ((sc.toInt64) * (1000 : Int64)) (((2 : Int64) * ((sc.toInt64) * (1000 : Int64))) + (1 : Int64)) t1 dd ee t2 b2 t1) [])) _
      refine XS.lload X38.here hx rfl (hb hby at_137) rfl ?_
      refine XS.lload X38.here hx rfl (hb hby at_139) rfl ?_
      refine XS.ladd X38.here hx rfl (hb hby at_141) rfl ?_
      show Steps p.tables e below (T38.setTop (mkF m 142 (LS_IIJsJsJsIIIJsJsJsJsJsJsRJsuuuuu p0 p1 q2 q3 q4 cp (0 : Int32) sc ((sc.toInt64) * (1000 : Int64)) (((2 : Int64) * ((sc.toInt64) * (1000 : Int64))) + (1 : Int64)) t1 dd ee t2 b2 t1) [(.long (t1 + ee))])) _
      refine XS.lstore X38.here hx rfl (hb hby at_142) rfl (l' := (LS_IIJsJsJsIIIJsJsJsJsJsJsRJsJsuuu p0 p1 q2 q3 q4 cp (0 : Int32) sc ((sc.toInt64) * (1000 : Int64)) (((2 : Int64) * ((sc.toInt64) * (1000 : Int64))) + (1 : Int64)) t1 dd ee t2 b2 t1 (t1 + ee))) rfl ?_
      refine XS.iload X38.here hx rfl (hb hby at_144) rfl ?_
      refine XS.ifNo X38.here hx rfl (hb hby at_146) rfl ((if0 _ _).trans (teq (by decide : (0 : Int32) = (0 : Int32))).2) ?_
      show Steps p.tables e below (T38.setTop (mkF m 149 (LS_IIJsJsJsIIIJsJsJsJsJsJsRJsJsuuu p0 p1 q2 q3 q4 cp (0 : Int32) sc ((sc.toInt64) * (1000 : Int64)) (((2 : Int64) * ((sc.toInt64) * (1000 : Int64))) + (1 : Int64)) t1 dd ee t2 b2 t1 (t1 + ee)) [])) _
      refine XS.iconst X38.here hx rfl (hb hby at_149) ?_
      refine XS.istore X38.here hx rfl (hb hby at_150) rfl (l' := (LS_IIJsJsJsIIIJsJsJsJsJsJsRJsJsIuu p0 p1 q2 q3 q4 cp (0 : Int32) sc ((sc.toInt64) * (1000 : Int64)) (((2 : Int64) * ((sc.toInt64) * (1000 : Int64))) + (1 : Int64)) t1 dd ee t2 b2 t1 (t1 + ee) (1 : Int32))) rfl ?_
      refine XS.goto X38.here hx rfl (pc0 := 152) (pc' := 201) rfl (hb hby at_152) (by decide) (by decide) ?_
      show Steps p.tables e below (T38.setTop (mkF m 201 (LS_IIJsJsJsIIIJsJsJsJsJsJsRJsJsIuu p0 p1 q2 q3 q4 cp (0 : Int32) sc ((sc.toInt64) * (1000 : Int64)) (((2 : Int64) * ((sc.toInt64) * (1000 : Int64))) + (1 : Int64)) t1 dd ee t2 b2 t1 (t1 + ee) (1 : Int32)) [])) _
      refine XS.aload X38.here hx rfl (hb hby at_201) rfl rfl ?_
      refine XS.lload X38.here hx rfl (hb hby at_203) rfl ?_
      exact k
    have A2_v40 := A2_v26.keep K38
    have Z0_v41 := Nat.le_trans Z0_v23 K38.1
    obtain ⟨cq42, kq42, q42a, q42b, q42c⟩ := isOf hZ22 rfl A2_v40
    obtain ⟨_, _, ⟨T42, L42, k42, n42⟩, -, X42, ⟨Lc42, hQ42, l42, y42, z42⟩, st42⟩ := X38.virtualBack hx (y := (⟨"com/example/blend2/blend2/SlidingWindowLog", "isIdleAt", "(J)Z"⟩ : MethodName)) (z := (⟨"com/example/blend2/blend2/SlidingWindowLog", "isIdleAt", "(J)Z"⟩ : MethodName)) ho22 (mvT hZ22 (hw _ (List.mem_of_getElem? (i := 94) rfl))) (mvT hZ22 (hw _ (List.mem_of_getElem? (i := 95) rfl))) (notFace_of_selects (args := #[]) (mvT hZ22 (hw _ (List.mem_of_getElem? (i := 97) rfl)))) (mvT hZ22 (hw _ (List.mem_of_getElem? (i := 97) rfl))) (mvT hZ22 (hw _ (List.mem_of_getElem? (i := 96) rfl))) (by decide) (backOf (W := 0) (rmidl00_0_0 l Z a0 hw [] b2 (t1 + ee) da38 ea38 ka38 ((sc.toInt64) * (1000 : Int64))  T38.heap n0 Z0_v41 A2_v40 Fd38 Fm38 Ed38 Fe38 Fh38 Ft38 Va38 Ov38 g_da38 g_ea38) hZ22 (hw _ (List.mem_of_getElem? (i := 98) rfl)) (hw _ (List.mem_of_getElem? (i := 10) rfl)) (by decide) (by decide)) q42a q42c (g := (mkF m 205 (LS_IIJsJsJsIIIJsJsJsJsJsJsRJsJsIuu p0 p1 q2 q3 q4 cp (0 : Int32) sc ((sc.toInt64) * (1000 : Int64)) (((2 : Int64) * ((sc.toInt64) * (1000 : Int64))) + (1 : Int64)) t1 dd ee t2 b2 t1 (t1 + ee) (1 : Int32)) [(.long (t1 + ee)), (.ref b2)])) rfl (by rw [hml]; rfl) (Steps.refl _) (argsL := [(.long (t1 + ee))]) (rest := []) (lenOf pd__J_Z rfl) rfl (by show 2 * 0 + _ ≤ _; exact Nat.le_of_eq rfl) (hb hby at_205) (fun _ _ => ⟨rfl, rfl, (by decide : 12 + 0 ≤ _), (by decide : 156 + 0 ≤ _)⟩)
    dsimp only [Pt.U, Pt.locs, Pt.cells, Pt.slots] at X42 l42 y42 z42 st42 hQ42
    subst l42 y42 z42
    obtain ⟨rfl, N42q, e42⟩ := hQ42
    have N42 := Fr.app N38 N42q
    refine own_go (B := T42.setTop (mkF m 208 (LS_IIJsJsJsIIIJsJsJsJsJsJsRJsJsIuu p0 p1 q2 q3 q4 cp (0 : Int32) sc ((sc.toInt64) * (1000 : Int64)) (((2 : Int64) * ((sc.toInt64) * (1000 : Int64))) + (1 : Int64)) t1 dd ee t2 b2 t1 (t1 + ee) (1 : Int32)) [(.int (1 : Int32))])) (fun t k => st42.trans k) ?_
    refine own_go (B := T42.setTop (mkF m 218 (LS_IIJsJsJsIIIJsJsJsJsJsJsRJsJsIuu p0 p1 q2 q3 q4 cp (0 : Int32) sc ((sc.toInt64) * (1000 : Int64)) (((2 : Int64) * ((sc.toInt64) * (1000 : Int64))) + (1 : Int64)) t1 dd ee t2 b2 t1 (t1 + ee) (1 : Int32)) [(.int (1 : Int32))])) (fun t k => ?_) ?_
    · refine XS.iload X42.here hx rfl (hb hby at_208) rfl ?_
      refine XS.icmpNo X42.here hx rfl (hb hby at_210) rfl (teq (by decide : (1 : Int32) = (1 : Int32))).2 ?_
      show Steps p.tables e below (T42.setTop (mkF m 213 (LS_IIJsJsJsIIIJsJsJsJsJsJsRJsJsIuu p0 p1 q2 q3 q4 cp (0 : Int32) sc ((sc.toInt64) * (1000 : Int64)) (((2 : Int64) * ((sc.toInt64) * (1000 : Int64))) + (1 : Int64)) t1 dd ee t2 b2 t1 (t1 + ee) (1 : Int32)) [])) _
      refine XS.iconst X42.here hx rfl (hb hby at_213) ?_
      refine XS.goto X42.here hx rfl (pc0 := 214) (pc' := 218) rfl (hb hby at_214) (by decide) (by decide) ?_
      exact k
    have hk22_v43 := Nat.le_trans hk22 K38.1
    obtain ⟨fs, hr, hrun, hended, hRW⟩ := Stand.leaveW (s := s) (vm₁ := T22.vm) X42 hS22 (by rw [e42]; exact hk22_v43) (v := some (.int (1 : Int32))) (fun h => by rw [Bd.returns] at h; cases h) (BodyLoose.notSynchronized Bd)
    refine ⟨_, _, ?_, hrun, hended, _, _, rfl, ?_, hRW.1, hRW.2.1, hRW.2.2.1, hRW.2.2.2.mono (by decide) (by decide)⟩
    · show Steps p.tables e below (T42.setTop (mkF m 218 (LS_IIJsJsJsIIIJsJsJsJsJsJsRJsJsIuu p0 p1 q2 q3 q4 cp (0 : Int32) sc ((sc.toInt64) * (1000 : Int64)) (((2 : Int64) * ((sc.toInt64) * (1000 : Int64))) + (1 : Int64)) t1 dd ee t2 b2 t1 (t1 + ee) (1 : Int32)) [(.int (1 : Int32))])) _
      exact retN X42 hx (t := .boolean) Bd.returns (by simp) (hb hby at_218) hr
    · show Q0 Z p0 p1 q2 q3 q4 w_Algorithm_SLIDING_WINDOW_LOG w_StoreFailurePolicy_OPEN w_Duration_ZERO w_Long_LongCache_cache cc h0 n0 _ T42.heap _
      rw [e42]
      exact ⟨rfl, N42⟩
  · refine own_go (B := T38.setTop (mkF m 107 (LS_IIJsJsJsIIIJsJsJsJsJsJsRJsuuuuu p0 p1 q2 q3 q4 cp (1 : Int32) sc ((sc.toInt64) * (1000 : Int64)) (((2 : Int64) * ((sc.toInt64) * (1000 : Int64))) + (1 : Int64)) t1 dd ee t2 b2 t1) [(.int (1 : Int32))])) (fun t k => by rw [hk39]; exact k) ?_
    refine own_go (B := T38.setTop (mkF m 115 (LS_IIJsJsJsIIIJsJsJsJsJsJsRJsuuuuu p0 p1 q2 q3 q4 cp (1 : Int32) sc ((sc.toInt64) * (1000 : Int64)) (((2 : Int64) * ((sc.toInt64) * (1000 : Int64))) + (1 : Int64)) t1 dd ee t2 b2 t1) [(.long t1), (.ref b2)])) (fun t k => ?_) ?_
    · refine XS.iconst X38.here hx rfl (hb hby at_107) ?_
      refine XS.icmpNo X38.here hx rfl (hb hby at_108) rfl (flt (by decide : ¬ ((1 : Int32) < (1 : Int32)))).1 ?_
      show Steps p.tables e below (T38.setTop (mkF m 111 (LS_IIJsJsJsIIIJsJsJsJsJsJsRJsuuuuu p0 p1 q2 q3 q4 cp (1 : Int32) sc ((sc.toInt64) * (1000 : Int64)) (((2 : Int64) * ((sc.toInt64) * (1000 : Int64))) + (1 : Int64)) t1 dd ee t2 b2 t1) [])) _
      refine XS.aload X38.here hx rfl (hb hby at_111) rfl rfl ?_
      refine XS.lload X38.here hx rfl (hb hby at_113) rfl ?_
      exact k
    have A2_v44 := A2_v26.keep K38
    have Z0_v45 := Nat.le_trans Z0_v23 K38.1
    have S_Duration_ZERO_v46 := S_Duration_ZERO.ext E2
    have S_Duration_ZERO_v47 := S_Duration_ZERO_v46.ext E3
    have S_Duration_ZERO_v48 := S_Duration_ZERO_v47.ext E5
    have S_Duration_ZERO_v49 := own_sta_keep S_Duration_ZERO_v48 K22 (allS (own_plain_E A3_v16) all0)
    have S_Duration_ZERO_v50 := own_sta_keep S_Duration_ZERO_v49 K38 (allS (own_plain_E A2_v26) all0)
    have E_Duration_ZERO_v51 := E_Duration_ZERO.ext E2
    have E_Duration_ZERO_v52 := E_Duration_ZERO_v51.ext E3
    have E_Duration_ZERO_v53 := E_Duration_ZERO_v52.ext E5
    have E_Duration_ZERO_v54 := E_Duration_ZERO_v53.keep K22
    have E_Duration_ZERO_v55 := E_Duration_ZERO_v54.keep K38
    have F_Duration_ZERO_seconds_v56 := F_Duration_ZERO_seconds.ext E2
    have F_Duration_ZERO_seconds_v57 := F_Duration_ZERO_seconds_v56.ext E3
    have F_Duration_ZERO_seconds_v58 := F_Duration_ZERO_seconds_v57.ext E5
    have ne60 : w_Duration_ZERO ≠ b3 := Exa.ne E_Duration_ZERO_v52 A3 (by decide)
    have F_Duration_ZERO_seconds_v59 := F_Duration_ZERO_seconds_v58.keep K22 (ninS ne60 nin0)
    have ne62 : w_Duration_ZERO ≠ b2 := Exa.ne E_Duration_ZERO_v51 A2 (by decide)
    have F_Duration_ZERO_seconds_v61 := F_Duration_ZERO_seconds_v59.keep K38 (ninS ne62 nin0)
    have OL_v63 := Old.ext OL E2
    have OL_v64 := Old.ext OL_v63 E3
    have OL_v65 := Old.ext OL_v64 E5
    have OL_v66 := Old.keep OL_v65 K22 (allS g_b3 all0)
    have OL_v67 := Old.keep OL_v66 K38 (allS g_b2 all0)
    have S_Long_LongCache_cache_v68 := S_Long_LongCache_cache.ext E2
    have S_Long_LongCache_cache_v69 := S_Long_LongCache_cache_v68.ext E3
    have S_Long_LongCache_cache_v70 := S_Long_LongCache_cache_v69.ext E5
    have S_Long_LongCache_cache_v71 := own_sta_keep S_Long_LongCache_cache_v70 K22 (allS (own_plain_E A3_v16) all0)
    have S_Long_LongCache_cache_v72 := own_sta_keep S_Long_LongCache_cache_v71 K38 (allS (own_plain_E A2_v26) all0)
    have A3_v73 := A3_v27.keep K38
    have Fc22_v74 := Fc22.keep K38 (ninS (Ne.symm ne31) nin0)
    obtain ⟨cq75, kq75, q75a, q75b, q75c⟩ := isOf hZ22 rfl A2_v44
    obtain ⟨_, _, ⟨T75, L75, k75, n75⟩, -, X75, hs75, hg75, ⟨Lc75, hQ75, l75, y75, z75⟩, st75⟩ := X38.virtualBackS hx (y := (⟨"com/example/blend2/blend2/SlidingWindowLog", "decide", "(J)Lcom/example/blend2/blend2/Decision;"⟩ : MethodName)) (z := (⟨"com/example/blend2/blend2/SlidingWindowLog", "decide", "(J)Lcom/example/blend2/blend2/Decision;"⟩ : MethodName)) ho22 (mvT hZ22 (hw _ (List.mem_of_getElem? (i := 108) rfl))) (mvT hZ22 (hw _ (List.mem_of_getElem? (i := 109) rfl))) (notFace_of_selects (args := #[]) (mvT hZ22 (hw _ (List.mem_of_getElem? (i := 111) rfl)))) (mvT hZ22 (hw _ (List.mem_of_getElem? (i := 111) rfl))) (mvT hZ22 (hw _ (List.mem_of_getElem? (i := 110) rfl))) (by decide) (backOfS (W := 0) (rmdecA l Z a0 hw [] b2 t1 da38 ea38 ka38 ((sc.toInt64) * (1000 : Int64))  b3 w_Duration_ZERO w_Long_LongCache_cache cc cp T38.heap n0 Z0_v45 S_Duration_ZERO_v50 E_Duration_ZERO_v55 F_Duration_ZERO_seconds_v61 OL_v67 BX S_Long_LongCache_cache_v72 A3_v73 Fc22_v74 Fr38 A2_v44 Fd38 Fm38 Ed38 Fe38 Fh38 Ft38 Va38 Ov38 g_da38 g_ea38 hw1 hcp ) hZ22 (hw _ (List.mem_of_getElem? (i := 112) rfl)) (hw _ (List.mem_of_getElem? (i := 10) rfl)) (by decide) (by decide)) q75a q75c (g := (mkF m 115 (LS_IIJsJsJsIIIJsJsJsJsJsJsRJsuuuuu p0 p1 q2 q3 q4 cp (1 : Int32) sc ((sc.toInt64) * (1000 : Int64)) (((2 : Int64) * ((sc.toInt64) * (1000 : Int64))) + (1 : Int64)) t1 dd ee t2 b2 t1) [(.long t1), (.ref b2)])) rfl (by rw [hml]; rfl) (Steps.refl _) (argsL := [(.long t1)]) (rest := []) (lenOf pd__J_Lcom_example_blend2_blend2_Decision_ rfl) rfl (by show 2 * 0 + _ ≤ _; exact Nat.le_of_eq rfl) (hb hby at_115) (fun _ _ => ⟨rfl, rfl, (by decide : 12 + 10 ≤ _), (by decide : 156 + 98 ≤ _)⟩)
    dsimp only [Pt.U, Pt.locs, Pt.cells, Pt.slots] at X75 l75 y75 z75 st75 hQ75 hs75 hg75
    subst l75 y75 z75
    have hk22_v76 := Nat.le_trans hk22 K38.1
    have hS75 : s.Since T75.vm T75.heap.size := foldS (s := s) (vm0 := T22.vm) (T := T38) (U := T75) hS22 hk22_v76 hs75 hg75
    have hZ75 : Z.Warmed39 (s.setVm T75.vm).vm := State.Warmed39.trans (t := s.setVm T22.vm) hZ22 hs75.1
    have ho75 : (s.setVm T75.vm).vm.findClass "com/example/blend2/blend2/SlidingWindowLogIsIdleAtPinLaw" = some m.cls := by rw [show (s.setVm T75.vm).vm = T75.vm from rfl, hs75.1.alike.findClass]; exact ho22
    obtain ⟨o75, rfl, N75q, K75, y75, Fe75, Fh75, Ft75, Va75, Ey75, Fy75⟩ := hQ75
    have N75 := Fr.app N38 N75q
    have hk75 : T75.heap.size ≤ T75.heap.size := Nat.le_refl _
    refine own_go (B := T75.setTop (mkF m 118 (LS_IIJsJsJsIIIJsJsJsJsJsJsRJsuuuuu p0 p1 q2 q3 q4 cp (1 : Int32) sc ((sc.toInt64) * (1000 : Int64)) (((2 : Int64) * ((sc.toInt64) * (1000 : Int64))) + (1 : Int64)) t1 dd ee t2 b2 t1) [(.ref o75)])) (fun t k => st75.trans k) ?_
    refine own_go (B := T75.setTop (mkF m 191 (LS_IIJsJsJsIIIJsJsJsJsJsJsRJsJsuJs p0 p1 q2 q3 q4 cp (1 : Int32) sc ((sc.toInt64) * (1000 : Int64)) (((2 : Int64) * ((sc.toInt64) * (1000 : Int64))) + (1 : Int64)) t1 dd ee t2 b2 t1 (t1 + ee) t1) [(.int (lcmpW t1 ((t1 + ee) - ((sc.toInt64) * (1000 : Int64)))))])) (fun t k => ?_) ?_
    · refine XS.pop X75.here hx rfl (hb hby at_118) rfl rfl ?_
      refine XS.iload X75.here hx rfl (hb hby at_119) rfl ?_
      show Steps p.tables e below (T75.setTop (mkF m 121 (LS_IIJsJsJsIIIJsJsJsJsJsJsRJsuuuuu p0 p1 q2 q3 q4 cp (1 : Int32) sc ((sc.toInt64) * (1000 : Int64)) (((2 : Int64) * ((sc.toInt64) * (1000 : Int64))) + (1 : Int64)) t1 dd ee t2 b2 t1) [(.int (1 : Int32))])) _
      refine XS.iconst X75.here hx rfl (hb hby at_121) ?_
      refine XS.icmpYes X75.here hx rfl (pc0 := 122) (pc' := 137) rfl (hb hby at_122) rfl (feq (by decide : ¬ ((1 : Int32) = (2 : Int32)))).2 (by decide) (by decide) ?_
      refine XS.lload X75.here hx rfl (hb hby at_137) rfl ?_
      show Steps p.tables e below (T75.setTop (mkF m 139 (LS_IIJsJsJsIIIJsJsJsJsJsJsRJsuuuuu p0 p1 q2 q3 q4 cp (1 : Int32) sc ((sc.toInt64) * (1000 : Int64)) (((2 : Int64) * ((sc.toInt64) * (1000 : Int64))) + (1 : Int64)) t1 dd ee t2 b2 t1) [(.long t1)])) _
      refine XS.lload X75.here hx rfl (hb hby at_139) rfl ?_
      refine XS.ladd X75.here hx rfl (hb hby at_141) rfl ?_
      refine XS.lstore X75.here hx rfl (hb hby at_142) rfl (l' := (LS_IIJsJsJsIIIJsJsJsJsJsJsRJsJsuuu p0 p1 q2 q3 q4 cp (1 : Int32) sc ((sc.toInt64) * (1000 : Int64)) (((2 : Int64) * ((sc.toInt64) * (1000 : Int64))) + (1 : Int64)) t1 dd ee t2 b2 t1 (t1 + ee))) rfl ?_
      show Steps p.tables e below (T75.setTop (mkF m 144 (LS_IIJsJsJsIIIJsJsJsJsJsJsRJsJsuuu p0 p1 q2 q3 q4 cp (1 : Int32) sc ((sc.toInt64) * (1000 : Int64)) (((2 : Int64) * ((sc.toInt64) * (1000 : Int64))) + (1 : Int64)) t1 dd ee t2 b2 t1 (t1 + ee)) [])) _
      refine XS.iload X75.here hx rfl (hb hby at_144) rfl ?_
      refine XS.ifYes X75.here hx rfl (pc0 := 146) (pc' := 155) rfl (hb hby at_146) rfl ((if0 _ _).trans (feq (by decide : ¬ ((1 : Int32) = (0 : Int32)))).2) (by decide) (by decide) ?_
      refine XS.lload X75.here hx rfl (hb hby at_155) rfl ?_
      show Steps p.tables e below (T75.setTop (mkF m 157 (LS_IIJsJsJsIIIJsJsJsJsJsJsRJsJsuuu p0 p1 q2 q3 q4 cp (1 : Int32) sc ((sc.toInt64) * (1000 : Int64)) (((2 : Int64) * ((sc.toInt64) * (1000 : Int64))) + (1 : Int64)) t1 dd ee t2 b2 t1 (t1 + ee)) [(.long t1)])) _
      refine XS.lstore X75.here hx rfl (hb hby at_157) rfl (l' := (LS_IIJsJsJsIIIJsJsJsJsJsJsRJsJsuJs p0 p1 q2 q3 q4 cp (1 : Int32) sc ((sc.toInt64) * (1000 : Int64)) (((2 : Int64) * ((sc.toInt64) * (1000 : Int64))) + (1 : Int64)) t1 dd ee t2 b2 t1 (t1 + ee) t1)) rfl ?_
      refine XS.iload X75.here hx rfl (hb hby at_159) rfl ?_
      refine XS.iconst X75.here hx rfl (hb hby at_161) ?_
      show Steps p.tables e below (T75.setTop (mkF m 162 (LS_IIJsJsJsIIIJsJsJsJsJsJsRJsJsuJs p0 p1 q2 q3 q4 cp (1 : Int32) sc ((sc.toInt64) * (1000 : Int64)) (((2 : Int64) * ((sc.toInt64) * (1000 : Int64))) + (1 : Int64)) t1 dd ee t2 b2 t1 (t1 + ee) t1) [(.int (2 : Int32)), (.int (1 : Int32))])) _
      refine XS.icmpYes X75.here hx rfl (pc0 := 162) (pc' := 183) rfl (hb hby at_162) rfl (feq (by decide : ¬ ((1 : Int32) = (2 : Int32)))).2 (by decide) (by decide) ?_
      refine XS.lload X75.here hx rfl (hb hby at_183) rfl ?_
      refine XS.lload X75.here hx rfl (hb hby at_185) rfl ?_
      show Steps p.tables e below (T75.setTop (mkF m 187 (LS_IIJsJsJsIIIJsJsJsJsJsJsRJsJsuJs p0 p1 q2 q3 q4 cp (1 : Int32) sc ((sc.toInt64) * (1000 : Int64)) (((2 : Int64) * ((sc.toInt64) * (1000 : Int64))) + (1 : Int64)) t1 dd ee t2 b2 t1 (t1 + ee) t1) [(.long (t1 + ee)), (.long t1)])) _
      refine XS.lload X75.here hx rfl (hb hby at_187) rfl ?_
      refine XS.lsub X75.here hx rfl (hb hby at_189) rfl ?_
      refine XS.lcmp X75.here hx rfl (hb hby at_190) rfl ?_
      exact k
    by_cases hc191_77 : ((t1 + ee) - ((sc.toInt64) * (1000 : Int64))) < t1
    · refine own_go (B := T75.setTop (mkF m 205 (LS_IIJsJsJsIIIJsJsJsJsJsJsRJsJsIJs p0 p1 q2 q3 q4 cp (1 : Int32) sc ((sc.toInt64) * (1000 : Int64)) (((2 : Int64) * ((sc.toInt64) * (1000 : Int64))) + (1 : Int64)) t1 dd ee t2 b2 t1 (t1 + ee) (0 : Int32) t1) [(.long (t1 + ee)), (.ref b2)])) (fun t k => ?_) ?_
      · refine XS.ifYes X75.here hx rfl (pc0 := 191) (pc' := 198) rfl (hb hby at_191) rfl ((if0 _ _).trans (tlt ((lw_gt t1 ((t1 + ee) - ((sc.toInt64) * (1000 : Int64)))).mpr hc191_77)).2.2.1) (by decide) (by decide) ?_
        refine XS.iconst X75.here hx rfl (hb hby at_198) ?_
        show Steps p.tables e below (T75.setTop (mkF m 199 (LS_IIJsJsJsIIIJsJsJsJsJsJsRJsJsuJs p0 p1 q2 q3 q4 cp (1 : Int32) sc ((sc.toInt64) * (1000 : Int64)) (((2 : Int64) * ((sc.toInt64) * (1000 : Int64))) + (1 : Int64)) t1 dd ee t2 b2 t1 (t1 + ee) t1) [(.int (0 : Int32))])) _
        refine XS.istore X75.here hx rfl (hb hby at_199) rfl (l' := (LS_IIJsJsJsIIIJsJsJsJsJsJsRJsJsIJs p0 p1 q2 q3 q4 cp (1 : Int32) sc ((sc.toInt64) * (1000 : Int64)) (((2 : Int64) * ((sc.toInt64) * (1000 : Int64))) + (1 : Int64)) t1 dd ee t2 b2 t1 (t1 + ee) (0 : Int32) t1)) rfl ?_
        refine XS.aload X75.here hx rfl (hb hby at_201) rfl rfl ?_
        refine XS.lload X75.here hx rfl (hb hby at_203) rfl ?_
        exact k
      have A2_v78 := A2_v44.keep K75
      have ne80 : b2 ≠ ea38 := Exa.neArv A2_v78 Va75 (hw _ (List.mem_of_getElem? (i := 9) rfl))
      have ne81 : b2 ≠ da38 := Exa.ne A2_v44 Ed38 (by decide)
      have Fd38_v79 := Fd38.keep K75 (ninS ne81 (ninS ne80 nin0))
      have Fm38_v82 := Fm38.keep K75 (ninS ne81 (ninS ne80 nin0))
      have Ed38_v83 := Ed38.keep K75
      have Z0_v84 := Nat.le_trans Z0_v45 K75.1
      obtain ⟨cq85, kq85, q85a, q85b, q85c⟩ := isOf hZ75 rfl A2_v78
      obtain ⟨_, _, ⟨T85, L85, k85, n85⟩, -, X85, ⟨Lc85, hQ85, l85, y85, z85⟩, st85⟩ := X75.virtualBack hx (y := (⟨"com/example/blend2/blend2/SlidingWindowLog", "isIdleAt", "(J)Z"⟩ : MethodName)) (z := (⟨"com/example/blend2/blend2/SlidingWindowLog", "isIdleAt", "(J)Z"⟩ : MethodName)) ho75 (mvT hZ75 (hw _ (List.mem_of_getElem? (i := 94) rfl))) (mvT hZ75 (hw _ (List.mem_of_getElem? (i := 95) rfl))) (notFace_of_selects (args := #[]) (mvT hZ75 (hw _ (List.mem_of_getElem? (i := 97) rfl)))) (mvT hZ75 (hw _ (List.mem_of_getElem? (i := 97) rfl))) (mvT hZ75 (hw _ (List.mem_of_getElem? (i := 96) rfl))) (by decide) (backOf (W := 0) (rmidl10_0_1 l Z a0 hw [] b2 (t1 + ee) da38 ea38 ka38 ((sc.toInt64) * (1000 : Int64)) y75 t1 T75.heap n0 Z0_v84 A2_v78 Fd38_v79 Fm38_v82 Ed38_v83 Fe75 Fh75 Ft75 Va75 Ov38 g_da38 g_ea38 Ey75 Fy75) hZ75 (hw _ (List.mem_of_getElem? (i := 98) rfl)) (hw _ (List.mem_of_getElem? (i := 10) rfl)) (by decide) (by decide)) q85a q85c (g := (mkF m 205 (LS_IIJsJsJsIIIJsJsJsJsJsJsRJsJsIJs p0 p1 q2 q3 q4 cp (1 : Int32) sc ((sc.toInt64) * (1000 : Int64)) (((2 : Int64) * ((sc.toInt64) * (1000 : Int64))) + (1 : Int64)) t1 dd ee t2 b2 t1 (t1 + ee) (0 : Int32) t1) [(.long (t1 + ee)), (.ref b2)])) rfl (by rw [hml]; rfl) (Steps.refl _) (argsL := [(.long (t1 + ee))]) (rest := []) (lenOf pd__J_Z rfl) rfl (by show 2 * 0 + _ ≤ _; exact Nat.le_of_eq rfl) (hb hby at_205) (fun _ _ => ⟨rfl, rfl, (by decide : 22 + 0 ≤ _), (by decide : 254 + 0 ≤ _)⟩)
      dsimp only [Pt.U, Pt.locs, Pt.cells, Pt.slots] at X85 l85 y85 z85 st85 hQ85
      subst l85 y85 z85
      obtain ⟨rfl, N85q, e85⟩ := hQ85
      have N85 := Fr.app N75 N85q
      refine own_go (B := T85.setTop (mkF m 208 (LS_IIJsJsJsIIIJsJsJsJsJsJsRJsJsIJs p0 p1 q2 q3 q4 cp (1 : Int32) sc ((sc.toInt64) * (1000 : Int64)) (((2 : Int64) * ((sc.toInt64) * (1000 : Int64))) + (1 : Int64)) t1 dd ee t2 b2 t1 (t1 + ee) (0 : Int32) t1) [(.int (if ((t1 + ee) - ((sc.toInt64) * (1000 : Int64))) < t1 then (0 : Int32) else (1 : Int32)))])) (fun t k => st85.trans k) ?_
      refine own_go (B := T85.setTop (mkF m 218 (LS_IIJsJsJsIIIJsJsJsJsJsJsRJsJsIJs p0 p1 q2 q3 q4 cp (1 : Int32) sc ((sc.toInt64) * (1000 : Int64)) (((2 : Int64) * ((sc.toInt64) * (1000 : Int64))) + (1 : Int64)) t1 dd ee t2 b2 t1 (t1 + ee) (0 : Int32) t1) [(.int (1 : Int32))])) (fun t k => ?_) ?_
      · refine XS.iload X85.here hx rfl (hb hby at_208) rfl ?_
        refine XS.icmpNo X85.here hx rfl (hb hby at_210) rfl (teq (if_pos hc191_77)).2 ?_
        show Steps p.tables e below (T85.setTop (mkF m 213 (LS_IIJsJsJsIIIJsJsJsJsJsJsRJsJsIJs p0 p1 q2 q3 q4 cp (1 : Int32) sc ((sc.toInt64) * (1000 : Int64)) (((2 : Int64) * ((sc.toInt64) * (1000 : Int64))) + (1 : Int64)) t1 dd ee t2 b2 t1 (t1 + ee) (0 : Int32) t1) [])) _
        refine XS.iconst X85.here hx rfl (hb hby at_213) ?_
        refine XS.goto X85.here hx rfl (pc0 := 214) (pc' := 218) rfl (hb hby at_214) (by decide) (by decide) ?_
        exact k
      obtain ⟨fs, hr, hrun, hended, hRW⟩ := Stand.leaveW (s := s) (vm₁ := T75.vm) X85 hS75 (by rw [e85]; exact hk75) (v := some (.int (1 : Int32))) (fun h => by rw [Bd.returns] at h; cases h) (BodyLoose.notSynchronized Bd)
      refine ⟨_, _, ?_, hrun, hended, _, _, rfl, ?_, hRW.1, hRW.2.1, hRW.2.2.1, hRW.2.2.2.mono (by decide) (by decide)⟩
      · show Steps p.tables e below (T85.setTop (mkF m 218 (LS_IIJsJsJsIIIJsJsJsJsJsJsRJsJsIJs p0 p1 q2 q3 q4 cp (1 : Int32) sc ((sc.toInt64) * (1000 : Int64)) (((2 : Int64) * ((sc.toInt64) * (1000 : Int64))) + (1 : Int64)) t1 dd ee t2 b2 t1 (t1 + ee) (0 : Int32) t1) [(.int (1 : Int32))])) _
        exact retN X85 hx (t := .boolean) Bd.returns (by simp) (hb hby at_218) hr
      · show Q0 Z p0 p1 q2 q3 q4 w_Algorithm_SLIDING_WINDOW_LOG w_StoreFailurePolicy_OPEN w_Duration_ZERO w_Long_LongCache_cache cc h0 n0 _ T85.heap _
        rw [e85]
        exact ⟨rfl, N85⟩
    · refine own_go (B := T75.setTop (mkF m 205 (LS_IIJsJsJsIIIJsJsJsJsJsJsRJsJsIJs p0 p1 q2 q3 q4 cp (1 : Int32) sc ((sc.toInt64) * (1000 : Int64)) (((2 : Int64) * ((sc.toInt64) * (1000 : Int64))) + (1 : Int64)) t1 dd ee t2 b2 t1 (t1 + ee) (1 : Int32) t1) [(.long (t1 + ee)), (.ref b2)])) (fun t k => ?_) ?_
      · refine XS.ifNo X75.here hx rfl (hb hby at_191) rfl ((if0 _ _).trans (flt (fun q => hc191_77 ((lw_gt t1 ((t1 + ee) - ((sc.toInt64) * (1000 : Int64)))).mp q))).2.2.1) ?_
        refine XS.iconst X75.here hx rfl (hb hby at_194) ?_
        show Steps p.tables e below (T75.setTop (mkF m 195 (LS_IIJsJsJsIIIJsJsJsJsJsJsRJsJsuJs p0 p1 q2 q3 q4 cp (1 : Int32) sc ((sc.toInt64) * (1000 : Int64)) (((2 : Int64) * ((sc.toInt64) * (1000 : Int64))) + (1 : Int64)) t1 dd ee t2 b2 t1 (t1 + ee) t1) [(.int (1 : Int32))])) _
        refine XS.goto X75.here hx rfl (pc0 := 195) (pc' := 199) rfl (hb hby at_195) (by decide) (by decide) ?_
        refine XS.istore X75.here hx rfl (hb hby at_199) rfl (l' := (LS_IIJsJsJsIIIJsJsJsJsJsJsRJsJsIJs p0 p1 q2 q3 q4 cp (1 : Int32) sc ((sc.toInt64) * (1000 : Int64)) (((2 : Int64) * ((sc.toInt64) * (1000 : Int64))) + (1 : Int64)) t1 dd ee t2 b2 t1 (t1 + ee) (1 : Int32) t1)) rfl ?_
        refine XS.aload X75.here hx rfl (hb hby at_201) rfl rfl ?_
        show Steps p.tables e below (T75.setTop (mkF m 203 (LS_IIJsJsJsIIIJsJsJsJsJsJsRJsJsIJs p0 p1 q2 q3 q4 cp (1 : Int32) sc ((sc.toInt64) * (1000 : Int64)) (((2 : Int64) * ((sc.toInt64) * (1000 : Int64))) + (1 : Int64)) t1 dd ee t2 b2 t1 (t1 + ee) (1 : Int32) t1) [(.ref b2)])) _
        refine XS.lload X75.here hx rfl (hb hby at_203) rfl ?_
        exact k
      have A2_v86 := A2_v44.keep K75
      have ne88 : b2 ≠ ea38 := Exa.neArv A2_v86 Va75 (hw _ (List.mem_of_getElem? (i := 9) rfl))
      have ne89 : b2 ≠ da38 := Exa.ne A2_v44 Ed38 (by decide)
      have Fd38_v87 := Fd38.keep K75 (ninS ne89 (ninS ne88 nin0))
      have Fm38_v90 := Fm38.keep K75 (ninS ne89 (ninS ne88 nin0))
      have Ed38_v91 := Ed38.keep K75
      have Z0_v92 := Nat.le_trans Z0_v45 K75.1
      obtain ⟨cq93, kq93, q93a, q93b, q93c⟩ := isOf hZ75 rfl A2_v86
      obtain ⟨_, _, ⟨T93, L93, k93, n93⟩, -, X93, ⟨Lc93, hQ93, l93, y93, z93⟩, st93⟩ := X75.virtualBack hx (y := (⟨"com/example/blend2/blend2/SlidingWindowLog", "isIdleAt", "(J)Z"⟩ : MethodName)) (z := (⟨"com/example/blend2/blend2/SlidingWindowLog", "isIdleAt", "(J)Z"⟩ : MethodName)) ho75 (mvT hZ75 (hw _ (List.mem_of_getElem? (i := 94) rfl))) (mvT hZ75 (hw _ (List.mem_of_getElem? (i := 95) rfl))) (notFace_of_selects (args := #[]) (mvT hZ75 (hw _ (List.mem_of_getElem? (i := 97) rfl)))) (mvT hZ75 (hw _ (List.mem_of_getElem? (i := 97) rfl))) (mvT hZ75 (hw _ (List.mem_of_getElem? (i := 96) rfl))) (by decide) (backOf (W := 0) (rmidl10_0_1 l Z a0 hw [] b2 (t1 + ee) da38 ea38 ka38 ((sc.toInt64) * (1000 : Int64)) y75 t1 T75.heap n0 Z0_v92 A2_v86 Fd38_v87 Fm38_v90 Ed38_v91 Fe75 Fh75 Ft75 Va75 Ov38 g_da38 g_ea38 Ey75 Fy75) hZ75 (hw _ (List.mem_of_getElem? (i := 98) rfl)) (hw _ (List.mem_of_getElem? (i := 10) rfl)) (by decide) (by decide)) q93a q93c (g := (mkF m 205 (LS_IIJsJsJsIIIJsJsJsJsJsJsRJsJsIJs p0 p1 q2 q3 q4 cp (1 : Int32) sc ((sc.toInt64) * (1000 : Int64)) (((2 : Int64) * ((sc.toInt64) * (1000 : Int64))) + (1 : Int64)) t1 dd ee t2 b2 t1 (t1 + ee) (1 : Int32) t1) [(.long (t1 + ee)), (.ref b2)])) rfl (by rw [hml]; rfl) (Steps.refl _) (argsL := [(.long (t1 + ee))]) (rest := []) (lenOf pd__J_Z rfl) rfl (by show 2 * 0 + _ ≤ _; exact Nat.le_of_eq rfl) (hb hby at_205) (fun _ _ => ⟨rfl, rfl, (by decide : 22 + 0 ≤ _), (by decide : 254 + 0 ≤ _)⟩)
      dsimp only [Pt.U, Pt.locs, Pt.cells, Pt.slots] at X93 l93 y93 z93 st93 hQ93
      subst l93 y93 z93
      obtain ⟨rfl, N93q, e93⟩ := hQ93
      have N93 := Fr.app N75 N93q
      refine own_go (B := T93.setTop (mkF m 208 (LS_IIJsJsJsIIIJsJsJsJsJsJsRJsJsIJs p0 p1 q2 q3 q4 cp (1 : Int32) sc ((sc.toInt64) * (1000 : Int64)) (((2 : Int64) * ((sc.toInt64) * (1000 : Int64))) + (1 : Int64)) t1 dd ee t2 b2 t1 (t1 + ee) (1 : Int32) t1) [(.int (if ((t1 + ee) - ((sc.toInt64) * (1000 : Int64))) < t1 then (0 : Int32) else (1 : Int32)))])) (fun t k => st93.trans k) ?_
      refine own_go (B := T93.setTop (mkF m 218 (LS_IIJsJsJsIIIJsJsJsJsJsJsRJsJsIJs p0 p1 q2 q3 q4 cp (1 : Int32) sc ((sc.toInt64) * (1000 : Int64)) (((2 : Int64) * ((sc.toInt64) * (1000 : Int64))) + (1 : Int64)) t1 dd ee t2 b2 t1 (t1 + ee) (1 : Int32) t1) [(.int (1 : Int32))])) (fun t k => ?_) ?_
      · refine XS.iload X93.here hx rfl (hb hby at_208) rfl ?_
        refine XS.icmpNo X93.here hx rfl (hb hby at_210) rfl (teq (if_neg hc191_77)).2 ?_
        show Steps p.tables e below (T93.setTop (mkF m 213 (LS_IIJsJsJsIIIJsJsJsJsJsJsRJsJsIJs p0 p1 q2 q3 q4 cp (1 : Int32) sc ((sc.toInt64) * (1000 : Int64)) (((2 : Int64) * ((sc.toInt64) * (1000 : Int64))) + (1 : Int64)) t1 dd ee t2 b2 t1 (t1 + ee) (1 : Int32) t1) [])) _
        refine XS.iconst X93.here hx rfl (hb hby at_213) ?_
        refine XS.goto X93.here hx rfl (pc0 := 214) (pc' := 218) rfl (hb hby at_214) (by decide) (by decide) ?_
        exact k
      obtain ⟨fs, hr, hrun, hended, hRW⟩ := Stand.leaveW (s := s) (vm₁ := T75.vm) X93 hS75 (by rw [e93]; exact hk75) (v := some (.int (1 : Int32))) (fun h => by rw [Bd.returns] at h; cases h) (BodyLoose.notSynchronized Bd)
      refine ⟨_, _, ?_, hrun, hended, _, _, rfl, ?_, hRW.1, hRW.2.1, hRW.2.2.1, hRW.2.2.2.mono (by decide) (by decide)⟩
      · show Steps p.tables e below (T93.setTop (mkF m 218 (LS_IIJsJsJsIIIJsJsJsJsJsJsRJsJsIJs p0 p1 q2 q3 q4 cp (1 : Int32) sc ((sc.toInt64) * (1000 : Int64)) (((2 : Int64) * ((sc.toInt64) * (1000 : Int64))) + (1 : Int64)) t1 dd ee t2 b2 t1 (t1 + ee) (1 : Int32) t1) [(.int (1 : Int32))])) _
        exact retN X93 hx (t := .boolean) Bd.returns (by simp) (hb hby at_218) hr
      · show Q0 Z p0 p1 q2 q3 q4 w_Algorithm_SLIDING_WINDOW_LOG w_StoreFailurePolicy_OPEN w_Duration_ZERO w_Long_LongCache_cache cc h0 n0 _ T93.heap _
        rw [e93]
        exact ⟨rfl, N93⟩
  · refine own_go (B := T38.setTop (mkF m 107 (LS_IIJsJsJsIIIJsJsJsJsJsJsRJsuuuuu p0 p1 q2 q3 q4 cp (2 : Int32) sc ((sc.toInt64) * (1000 : Int64)) (((2 : Int64) * ((sc.toInt64) * (1000 : Int64))) + (1 : Int64)) t1 dd ee t2 b2 t1) [(.int (2 : Int32))])) (fun t k => by rw [hk39]; exact k) ?_
    refine own_go (B := T38.setTop (mkF m 115 (LS_IIJsJsJsIIIJsJsJsJsJsJsRJsuuuuu p0 p1 q2 q3 q4 cp (2 : Int32) sc ((sc.toInt64) * (1000 : Int64)) (((2 : Int64) * ((sc.toInt64) * (1000 : Int64))) + (1 : Int64)) t1 dd ee t2 b2 t1) [(.long t1), (.ref b2)])) (fun t k => ?_) ?_
    · refine XS.iconst X38.here hx rfl (hb hby at_107) ?_
      refine XS.icmpNo X38.here hx rfl (hb hby at_108) rfl (flt (by decide : ¬ ((2 : Int32) < (1 : Int32)))).1 ?_
      show Steps p.tables e below (T38.setTop (mkF m 111 (LS_IIJsJsJsIIIJsJsJsJsJsJsRJsuuuuu p0 p1 q2 q3 q4 cp (2 : Int32) sc ((sc.toInt64) * (1000 : Int64)) (((2 : Int64) * ((sc.toInt64) * (1000 : Int64))) + (1 : Int64)) t1 dd ee t2 b2 t1) [])) _
      refine XS.aload X38.here hx rfl (hb hby at_111) rfl rfl ?_
      refine XS.lload X38.here hx rfl (hb hby at_113) rfl ?_
      exact k
    have A2_v94 := A2_v26.keep K38
    have Z0_v95 := Nat.le_trans Z0_v23 K38.1
    have S_Duration_ZERO_v96 := S_Duration_ZERO.ext E2
    have S_Duration_ZERO_v97 := S_Duration_ZERO_v96.ext E3
    have S_Duration_ZERO_v98 := S_Duration_ZERO_v97.ext E5
    have S_Duration_ZERO_v99 := own_sta_keep S_Duration_ZERO_v98 K22 (allS (own_plain_E A3_v16) all0)
    have S_Duration_ZERO_v100 := own_sta_keep S_Duration_ZERO_v99 K38 (allS (own_plain_E A2_v26) all0)
    have E_Duration_ZERO_v101 := E_Duration_ZERO.ext E2
    have E_Duration_ZERO_v102 := E_Duration_ZERO_v101.ext E3
    have E_Duration_ZERO_v103 := E_Duration_ZERO_v102.ext E5
    have E_Duration_ZERO_v104 := E_Duration_ZERO_v103.keep K22
    have E_Duration_ZERO_v105 := E_Duration_ZERO_v104.keep K38
    have F_Duration_ZERO_seconds_v106 := F_Duration_ZERO_seconds.ext E2
    have F_Duration_ZERO_seconds_v107 := F_Duration_ZERO_seconds_v106.ext E3
    have F_Duration_ZERO_seconds_v108 := F_Duration_ZERO_seconds_v107.ext E5
    have ne110 : w_Duration_ZERO ≠ b3 := Exa.ne E_Duration_ZERO_v102 A3 (by decide)
    have F_Duration_ZERO_seconds_v109 := F_Duration_ZERO_seconds_v108.keep K22 (ninS ne110 nin0)
    have ne112 : w_Duration_ZERO ≠ b2 := Exa.ne E_Duration_ZERO_v101 A2 (by decide)
    have F_Duration_ZERO_seconds_v111 := F_Duration_ZERO_seconds_v109.keep K38 (ninS ne112 nin0)
    have OL_v113 := Old.ext OL E2
    have OL_v114 := Old.ext OL_v113 E3
    have OL_v115 := Old.ext OL_v114 E5
    have OL_v116 := Old.keep OL_v115 K22 (allS g_b3 all0)
    have OL_v117 := Old.keep OL_v116 K38 (allS g_b2 all0)
    have S_Long_LongCache_cache_v118 := S_Long_LongCache_cache.ext E2
    have S_Long_LongCache_cache_v119 := S_Long_LongCache_cache_v118.ext E3
    have S_Long_LongCache_cache_v120 := S_Long_LongCache_cache_v119.ext E5
    have S_Long_LongCache_cache_v121 := own_sta_keep S_Long_LongCache_cache_v120 K22 (allS (own_plain_E A3_v16) all0)
    have S_Long_LongCache_cache_v122 := own_sta_keep S_Long_LongCache_cache_v121 K38 (allS (own_plain_E A2_v26) all0)
    have A3_v123 := A3_v27.keep K38
    have Fc22_v124 := Fc22.keep K38 (ninS (Ne.symm ne31) nin0)
    obtain ⟨cq125, kq125, q125a, q125b, q125c⟩ := isOf hZ22 rfl A2_v94
    obtain ⟨_, _, ⟨T125, L125, k125, n125⟩, -, X125, hs125, hg125, ⟨Lc125, hQ125, l125, y125, z125⟩, st125⟩ := X38.virtualBackS hx (y := (⟨"com/example/blend2/blend2/SlidingWindowLog", "decide", "(J)Lcom/example/blend2/blend2/Decision;"⟩ : MethodName)) (z := (⟨"com/example/blend2/blend2/SlidingWindowLog", "decide", "(J)Lcom/example/blend2/blend2/Decision;"⟩ : MethodName)) ho22 (mvT hZ22 (hw _ (List.mem_of_getElem? (i := 108) rfl))) (mvT hZ22 (hw _ (List.mem_of_getElem? (i := 109) rfl))) (notFace_of_selects (args := #[]) (mvT hZ22 (hw _ (List.mem_of_getElem? (i := 111) rfl)))) (mvT hZ22 (hw _ (List.mem_of_getElem? (i := 111) rfl))) (mvT hZ22 (hw _ (List.mem_of_getElem? (i := 110) rfl))) (by decide) (backOfS (W := 0) (rmdecA l Z a0 hw [] b2 t1 da38 ea38 ka38 ((sc.toInt64) * (1000 : Int64))  b3 w_Duration_ZERO w_Long_LongCache_cache cc cp T38.heap n0 Z0_v95 S_Duration_ZERO_v100 E_Duration_ZERO_v105 F_Duration_ZERO_seconds_v111 OL_v117 BX S_Long_LongCache_cache_v122 A3_v123 Fc22_v124 Fr38 A2_v94 Fd38 Fm38 Ed38 Fe38 Fh38 Ft38 Va38 Ov38 g_da38 g_ea38 hw1 hcp ) hZ22 (hw _ (List.mem_of_getElem? (i := 112) rfl)) (hw _ (List.mem_of_getElem? (i := 10) rfl)) (by decide) (by decide)) q125a q125c (g := (mkF m 115 (LS_IIJsJsJsIIIJsJsJsJsJsJsRJsuuuuu p0 p1 q2 q3 q4 cp (2 : Int32) sc ((sc.toInt64) * (1000 : Int64)) (((2 : Int64) * ((sc.toInt64) * (1000 : Int64))) + (1 : Int64)) t1 dd ee t2 b2 t1) [(.long t1), (.ref b2)])) rfl (by rw [hml]; rfl) (Steps.refl _) (argsL := [(.long t1)]) (rest := []) (lenOf pd__J_Lcom_example_blend2_blend2_Decision_ rfl) rfl (by show 2 * 0 + _ ≤ _; exact Nat.le_of_eq rfl) (hb hby at_115) (fun _ _ => ⟨rfl, rfl, (by decide : 12 + 10 ≤ _), (by decide : 156 + 98 ≤ _)⟩)
    dsimp only [Pt.U, Pt.locs, Pt.cells, Pt.slots] at X125 l125 y125 z125 st125 hQ125 hs125 hg125
    subst l125 y125 z125
    have hk22_v126 := Nat.le_trans hk22 K38.1
    have hS125 : s.Since T125.vm T125.heap.size := foldS (s := s) (vm0 := T22.vm) (T := T38) (U := T125) hS22 hk22_v126 hs125 hg125
    have hZ125 : Z.Warmed39 (s.setVm T125.vm).vm := State.Warmed39.trans (t := s.setVm T22.vm) hZ22 hs125.1
    have ho125 : (s.setVm T125.vm).vm.findClass "com/example/blend2/blend2/SlidingWindowLogIsIdleAtPinLaw" = some m.cls := by rw [show (s.setVm T125.vm).vm = T125.vm from rfl, hs125.1.alike.findClass]; exact ho22
    obtain ⟨o125, rfl, N125q, K125, y125, Fe125, Fh125, Ft125, Va125, Ey125, Fy125⟩ := hQ125
    have N125 := Fr.app N38 N125q
    have hk125 : T125.heap.size ≤ T125.heap.size := Nat.le_refl _
    refine own_go (B := T125.setTop (mkF m 118 (LS_IIJsJsJsIIIJsJsJsJsJsJsRJsuuuuu p0 p1 q2 q3 q4 cp (2 : Int32) sc ((sc.toInt64) * (1000 : Int64)) (((2 : Int64) * ((sc.toInt64) * (1000 : Int64))) + (1 : Int64)) t1 dd ee t2 b2 t1) [(.ref o125)])) (fun t k => st125.trans k) ?_
    refine own_go (B := T125.setTop (mkF m 129 (LS_IIJsJsJsIIIJsJsJsJsJsJsRJsuuuuu p0 p1 q2 q3 q4 cp (2 : Int32) sc ((sc.toInt64) * (1000 : Int64)) (((2 : Int64) * ((sc.toInt64) * (1000 : Int64))) + (1 : Int64)) t1 dd ee t2 b2 t1) [(.long t2), (.ref b2)])) (fun t k => ?_) ?_
    · refine XS.pop X125.here hx rfl (hb hby at_118) rfl rfl ?_
      refine XS.iload X125.here hx rfl (hb hby at_119) rfl ?_
      show Steps p.tables e below (T125.setTop (mkF m 121 (LS_IIJsJsJsIIIJsJsJsJsJsJsRJsuuuuu p0 p1 q2 q3 q4 cp (2 : Int32) sc ((sc.toInt64) * (1000 : Int64)) (((2 : Int64) * ((sc.toInt64) * (1000 : Int64))) + (1 : Int64)) t1 dd ee t2 b2 t1) [(.int (2 : Int32))])) _
      refine XS.iconst X125.here hx rfl (hb hby at_121) ?_
      refine XS.icmpNo X125.here hx rfl (hb hby at_122) rfl (teq (by decide : (2 : Int32) = (2 : Int32))).2 ?_
      refine XS.aload X125.here hx rfl (hb hby at_125) rfl rfl ?_
      show Steps p.tables e below (T125.setTop (mkF m 127 (LS_IIJsJsJsIIIJsJsJsJsJsJsRJsuuuuu p0 p1 q2 q3 q4 cp (2 : Int32) sc ((sc.toInt64) * (1000 : Int64)) (((2 : Int64) * ((sc.toInt64) * (1000 : Int64))) + (1 : Int64)) t1 dd ee t2 b2 t1) [(.ref b2)])) _
      refine XS.lload X125.here hx rfl (hb hby at_127) rfl ?_
      exact k
    have A2_v127 := A2_v94.keep K125
    have ne129 : b2 ≠ ea38 := Exa.neArv A2_v127 Va125 (hw _ (List.mem_of_getElem? (i := 9) rfl))
    have ne130 : b2 ≠ da38 := Exa.ne A2_v94 Ed38 (by decide)
    have Fd38_v128 := Fd38.keep K125 (ninS ne130 (ninS ne129 nin0))
    have Fm38_v131 := Fm38.keep K125 (ninS ne130 (ninS ne129 nin0))
    have Ed38_v132 := Ed38.keep K125
    have Z0_v133 := Nat.le_trans Z0_v95 K125.1
    have S_Duration_ZERO_v134 := own_sta_keep S_Duration_ZERO_v100 K125 (allS (own_plain_E Ed38) (allS (own_plain_V Va38) all0))
    have E_Duration_ZERO_v135 := E_Duration_ZERO_v105.keep K125
    have ne137 : w_Duration_ZERO ≠ ea38 := Exa.neArv E_Duration_ZERO_v135 Va125 (hw _ (List.mem_of_getElem? (i := 253) rfl))
    have ne138 : w_Duration_ZERO ≠ da38 := Exa.ne E_Duration_ZERO_v105 Ed38 (by decide)
    have F_Duration_ZERO_seconds_v136 := F_Duration_ZERO_seconds_v111.keep K125 (ninS ne138 (ninS ne137 nin0))
    have OL_v139 := Old.keep OL_v117 K125 (allS g_da38 (allS g_ea38 all0))
    have S_Long_LongCache_cache_v140 := own_sta_keep S_Long_LongCache_cache_v122 K125 (allS (own_plain_E Ed38) (allS (own_plain_V Va38) all0))
    have A3_v141 := A3_v123.keep K125
    have ne143 : b3 ≠ ea38 := Exa.neArv A3_v141 Va125 (hw _ (List.mem_of_getElem? (i := 12) rfl))
    have ne144 : b3 ≠ da38 := Exa.ne A3_v123 Ed38 (by decide)
    have Fc22_v142 := Fc22_v124.keep K125 (ninS ne144 (ninS ne143 nin0))
    have Fr38_v145 := Fr38.keep K125 (ninS ne130 (ninS ne129 nin0))
    obtain ⟨cq146, kq146, q146a, q146b, q146c⟩ := isOf hZ125 rfl A2_v127
    obtain ⟨_, _, ⟨T146, L146, k146, n146⟩, -, X146, hs146, hg146, ⟨Lc146, hQ146, l146, y146, z146⟩, st146⟩ := X125.virtualBackS hx (y := (⟨"com/example/blend2/blend2/SlidingWindowLog", "decide", "(J)Lcom/example/blend2/blend2/Decision;"⟩ : MethodName)) (z := (⟨"com/example/blend2/blend2/SlidingWindowLog", "decide", "(J)Lcom/example/blend2/blend2/Decision;"⟩ : MethodName)) ho125 (mvT hZ125 (hw _ (List.mem_of_getElem? (i := 108) rfl))) (mvT hZ125 (hw _ (List.mem_of_getElem? (i := 109) rfl))) (notFace_of_selects (args := #[]) (mvT hZ125 (hw _ (List.mem_of_getElem? (i := 111) rfl)))) (mvT hZ125 (hw _ (List.mem_of_getElem? (i := 111) rfl))) (mvT hZ125 (hw _ (List.mem_of_getElem? (i := 110) rfl))) (by decide) (backOfS (W := 0) (rmdecB l Z a0 hw [] b2 t2 da38 ea38 ka38 ((sc.toInt64) * (1000 : Int64)) y125 t1 b3 w_Duration_ZERO w_Long_LongCache_cache cc cp T125.heap n0 Z0_v133 S_Duration_ZERO_v134 E_Duration_ZERO_v135 F_Duration_ZERO_seconds_v136 OL_v139 BX S_Long_LongCache_cache_v140 A3_v141 Fc22_v142 Fr38_v145 A2_v127 Fd38_v128 Fm38_v131 Ed38_v132 Fe125 Fh125 Ft125 Va125 Ov38 g_da38 g_ea38 Ey125 Fy125 hw1 hcp hv1 hv12 hv2) hZ125 (hw _ (List.mem_of_getElem? (i := 112) rfl)) (hw _ (List.mem_of_getElem? (i := 10) rfl)) (by decide) (by decide)) q146a q146c (g := (mkF m 129 (LS_IIJsJsJsIIIJsJsJsJsJsJsRJsuuuuu p0 p1 q2 q3 q4 cp (2 : Int32) sc ((sc.toInt64) * (1000 : Int64)) (((2 : Int64) * ((sc.toInt64) * (1000 : Int64))) + (1 : Int64)) t1 dd ee t2 b2 t1) [(.long t2), (.ref b2)])) rfl (by rw [hml]; rfl) (Steps.refl _) (argsL := [(.long t2)]) (rest := []) (lenOf pd__J_Lcom_example_blend2_blend2_Decision_ rfl) rfl (by show 2 * 0 + _ ≤ _; exact Nat.le_of_eq rfl) (hb hby at_129) (fun _ _ => ⟨rfl, rfl, (by decide : 22 + 10 ≤ _), (by decide : 254 + 98 ≤ _)⟩)
    dsimp only [Pt.U, Pt.locs, Pt.cells, Pt.slots] at X146 l146 y146 z146 st146 hQ146 hs146 hg146
    subst l146 y146 z146
    have hS146 : s.Since T146.vm T146.heap.size := foldS (s := s) (vm0 := T125.vm) (T := T125) (U := T146) hS125 hk125 hs146 hg146
    have hZ146 : Z.Warmed39 (s.setVm T146.vm).vm := State.Warmed39.trans (t := s.setVm T125.vm) hZ125 hs146.1
    have ho146 : (s.setVm T146.vm).vm.findClass "com/example/blend2/blend2/SlidingWindowLogIsIdleAtPinLaw" = some m.cls := by rw [show (s.setVm T146.vm).vm = T146.vm from rfl, hs146.1.alike.findClass]; exact ho125
    obtain ⟨o146, rfl, N146q, K146, hor146⟩ := hQ146
    have N146 := Fr.app N125 N146q
    have hk146 : T146.heap.size ≤ T146.heap.size := Nat.le_refl _
    refine own_go (B := T146.setTop (mkF m 132 (LS_IIJsJsJsIIIJsJsJsJsJsJsRJsuuuuu p0 p1 q2 q3 q4 cp (2 : Int32) sc ((sc.toInt64) * (1000 : Int64)) (((2 : Int64) * ((sc.toInt64) * (1000 : Int64))) + (1 : Int64)) t1 dd ee t2 b2 t1) [(.ref o146)])) (fun t k => st146.trans k) ?_
    rcases hor146 with ⟨y146, hlt146, Fe146, Fh146, Ft146, Va146, Ey146, Fy146⟩ | ⟨y146, hlt146, h1c146, Fe146, Fh146, Ft146, Va146, Ey146, Fy146⟩ | ⟨hlt146, h1c146, Fe146, Fh146, Ft146, Va146⟩
    · refine own_go (B := T146.setTop (mkF m 168 (LS_IIJsJsJsIIIJsJsJsJsJsJsRJsJsuJs p0 p1 q2 q3 q4 cp (2 : Int32) sc ((sc.toInt64) * (1000 : Int64)) (((2 : Int64) * ((sc.toInt64) * (1000 : Int64))) + (1 : Int64)) t1 dd ee t2 b2 t2 (t2 + ee) t1) [(.int (2 : Int32)), (.int cp)])) (fun t k => ?_) ?_
      · refine XS.pop X146.here hx rfl (hb hby at_132) rfl rfl ?_
        refine XS.lload X146.here hx rfl (hb hby at_133) rfl ?_
        show Steps p.tables e below (T146.setTop (mkF m 135 (LS_IIJsJsJsIIIJsJsJsJsJsJsRJsuuuuu p0 p1 q2 q3 q4 cp (2 : Int32) sc ((sc.toInt64) * (1000 : Int64)) (((2 : Int64) * ((sc.toInt64) * (1000 : Int64))) + (1 : Int64)) t1 dd ee t2 b2 t1) [(.long t2)])) _
        refine XS.lstore X146.here hx rfl (hb hby at_135) rfl (l' := (LS_IIJsJsJsIIIJsJsJsJsJsJsRJsuuuuu p0 p1 q2 q3 q4 cp (2 : Int32) sc ((sc.toInt64) * (1000 : Int64)) (((2 : Int64) * ((sc.toInt64) * (1000 : Int64))) + (1 : Int64)) t1 dd ee t2 b2 t2)) rfl ?_
        refine XS.lload X146.here hx rfl (hb hby at_137) rfl ?_
        refine XS.lload X146.here hx rfl (hb hby at_139) rfl ?_
        show Steps p.tables e below (T146.setTop (mkF m 141 (LS_IIJsJsJsIIIJsJsJsJsJsJsRJsuuuuu p0 p1 q2 q3 q4 cp (2 : Int32) sc ((sc.toInt64) * (1000 : Int64)) (((2 : Int64) * ((sc.toInt64) * (1000 : Int64))) + (1 : Int64)) t1 dd ee t2 b2 t2) [(.long ee), (.long t2)])) _
        refine XS.ladd X146.here hx rfl (hb hby at_141) rfl ?_
        refine XS.lstore X146.here hx rfl (hb hby at_142) rfl (l' := (LS_IIJsJsJsIIIJsJsJsJsJsJsRJsJsuuu p0 p1 q2 q3 q4 cp (2 : Int32) sc ((sc.toInt64) * (1000 : Int64)) (((2 : Int64) * ((sc.toInt64) * (1000 : Int64))) + (1 : Int64)) t1 dd ee t2 b2 t2 (t2 + ee))) rfl ?_
        refine XS.iload X146.here hx rfl (hb hby at_144) rfl ?_
        show Steps p.tables e below (T146.setTop (mkF m 146 (LS_IIJsJsJsIIIJsJsJsJsJsJsRJsJsuuu p0 p1 q2 q3 q4 cp (2 : Int32) sc ((sc.toInt64) * (1000 : Int64)) (((2 : Int64) * ((sc.toInt64) * (1000 : Int64))) + (1 : Int64)) t1 dd ee t2 b2 t2 (t2 + ee)) [(.int (2 : Int32))])) _
        refine XS.ifYes X146.here hx rfl (pc0 := 146) (pc' := 155) rfl (hb hby at_146) rfl ((if0 _ _).trans (feq (by decide : ¬ ((2 : Int32) = (0 : Int32)))).2) (by decide) (by decide) ?_
        refine XS.lload X146.here hx rfl (hb hby at_155) rfl ?_
        refine XS.lstore X146.here hx rfl (hb hby at_157) rfl (l' := (LS_IIJsJsJsIIIJsJsJsJsJsJsRJsJsuJs p0 p1 q2 q3 q4 cp (2 : Int32) sc ((sc.toInt64) * (1000 : Int64)) (((2 : Int64) * ((sc.toInt64) * (1000 : Int64))) + (1 : Int64)) t1 dd ee t2 b2 t2 (t2 + ee) t1)) rfl ?_
        show Steps p.tables e below (T146.setTop (mkF m 159 (LS_IIJsJsJsIIIJsJsJsJsJsJsRJsJsuJs p0 p1 q2 q3 q4 cp (2 : Int32) sc ((sc.toInt64) * (1000 : Int64)) (((2 : Int64) * ((sc.toInt64) * (1000 : Int64))) + (1 : Int64)) t1 dd ee t2 b2 t2 (t2 + ee) t1) [])) _
        refine XS.iload X146.here hx rfl (hb hby at_159) rfl ?_
        refine XS.iconst X146.here hx rfl (hb hby at_161) ?_
        refine XS.icmpNo X146.here hx rfl (hb hby at_162) rfl (teq (by decide : (2 : Int32) = (2 : Int32))).2 ?_
        show Steps p.tables e below (T146.setTop (mkF m 165 (LS_IIJsJsJsIIIJsJsJsJsJsJsRJsJsuJs p0 p1 q2 q3 q4 cp (2 : Int32) sc ((sc.toInt64) * (1000 : Int64)) (((2 : Int64) * ((sc.toInt64) * (1000 : Int64))) + (1 : Int64)) t1 dd ee t2 b2 t2 (t2 + ee) t1) [])) _
        refine XS.iload X146.here hx rfl (hb hby at_165) rfl ?_
        refine XS.iconst X146.here hx rfl (hb hby at_167) ?_
        exact k
      by_cases hc168_147 : cp = (2 : Int32)
      · refine own_go (B := T146.setTop (mkF m 191 (LS_IIJsJsJsIIIJsJsJsJsJsJsRJsJsuJs p0 p1 q2 q3 q4 cp (2 : Int32) sc ((sc.toInt64) * (1000 : Int64)) (((2 : Int64) * ((sc.toInt64) * (1000 : Int64))) + (1 : Int64)) t1 dd ee t2 b2 t2 (t2 + ee) t2) [(.int (lcmpW t2 ((t2 + ee) - ((sc.toInt64) * (1000 : Int64)))))])) (fun t k => ?_) ?_
        · refine XS.icmpYes X146.here hx rfl (pc0 := 168) (pc' := 179) rfl (hb hby at_168) rfl (teq hc168_147).1 (by decide) (by decide) ?_
          refine XS.lload X146.here hx rfl (hb hby at_179) rfl ?_
          show Steps p.tables e below (T146.setTop (mkF m 181 (LS_IIJsJsJsIIIJsJsJsJsJsJsRJsJsuJs p0 p1 q2 q3 q4 cp (2 : Int32) sc ((sc.toInt64) * (1000 : Int64)) (((2 : Int64) * ((sc.toInt64) * (1000 : Int64))) + (1 : Int64)) t1 dd ee t2 b2 t2 (t2 + ee) t1) [(.long t2)])) _
          refine XS.lstore X146.here hx rfl (hb hby at_181) rfl (l' := (LS_IIJsJsJsIIIJsJsJsJsJsJsRJsJsuJs p0 p1 q2 q3 q4 cp (2 : Int32) sc ((sc.toInt64) * (1000 : Int64)) (((2 : Int64) * ((sc.toInt64) * (1000 : Int64))) + (1 : Int64)) t1 dd ee t2 b2 t2 (t2 + ee) t2)) rfl ?_
          refine XS.lload X146.here hx rfl (hb hby at_183) rfl ?_
          refine XS.lload X146.here hx rfl (hb hby at_185) rfl ?_
          show Steps p.tables e below (T146.setTop (mkF m 187 (LS_IIJsJsJsIIIJsJsJsJsJsJsRJsJsuJs p0 p1 q2 q3 q4 cp (2 : Int32) sc ((sc.toInt64) * (1000 : Int64)) (((2 : Int64) * ((sc.toInt64) * (1000 : Int64))) + (1 : Int64)) t1 dd ee t2 b2 t2 (t2 + ee) t2) [(.long (t2 + ee)), (.long t2)])) _
          refine XS.lload X146.here hx rfl (hb hby at_187) rfl ?_
          refine XS.lsub X146.here hx rfl (hb hby at_189) rfl ?_
          refine XS.lcmp X146.here hx rfl (hb hby at_190) rfl ?_
          exact k
        by_cases hc191_148 : ((t2 + ee) - ((sc.toInt64) * (1000 : Int64))) < t2
        · refine own_go (B := T146.setTop (mkF m 205 (LS_IIJsJsJsIIIJsJsJsJsJsJsRJsJsIJs p0 p1 q2 q3 q4 cp (2 : Int32) sc ((sc.toInt64) * (1000 : Int64)) (((2 : Int64) * ((sc.toInt64) * (1000 : Int64))) + (1 : Int64)) t1 dd ee t2 b2 t2 (t2 + ee) (0 : Int32) t2) [(.long (t2 + ee)), (.ref b2)])) (fun t k => ?_) ?_
          · refine XS.ifYes X146.here hx rfl (pc0 := 191) (pc' := 198) rfl (hb hby at_191) rfl ((if0 _ _).trans (tlt ((lw_gt t2 ((t2 + ee) - ((sc.toInt64) * (1000 : Int64)))).mpr hc191_148)).2.2.1) (by decide) (by decide) ?_
            refine XS.iconst X146.here hx rfl (hb hby at_198) ?_
            show Steps p.tables e below (T146.setTop (mkF m 199 (LS_IIJsJsJsIIIJsJsJsJsJsJsRJsJsuJs p0 p1 q2 q3 q4 cp (2 : Int32) sc ((sc.toInt64) * (1000 : Int64)) (((2 : Int64) * ((sc.toInt64) * (1000 : Int64))) + (1 : Int64)) t1 dd ee t2 b2 t2 (t2 + ee) t2) [(.int (0 : Int32))])) _
            refine XS.istore X146.here hx rfl (hb hby at_199) rfl (l' := (LS_IIJsJsJsIIIJsJsJsJsJsJsRJsJsIJs p0 p1 q2 q3 q4 cp (2 : Int32) sc ((sc.toInt64) * (1000 : Int64)) (((2 : Int64) * ((sc.toInt64) * (1000 : Int64))) + (1 : Int64)) t1 dd ee t2 b2 t2 (t2 + ee) (0 : Int32) t2)) rfl ?_
            refine XS.aload X146.here hx rfl (hb hby at_201) rfl rfl ?_
            refine XS.lload X146.here hx rfl (hb hby at_203) rfl ?_
            exact k
          have A2_v149 := A2_v127.keep K146
          have Fd38_v150 := Fd38_v128.keep K146 (ninS ne130 (ninS ne129 nin0))
          have Fm38_v151 := Fm38_v131.keep K146 (ninS ne130 (ninS ne129 nin0))
          have Ed38_v152 := Ed38_v132.keep K146
          have Z0_v153 := Nat.le_trans Z0_v133 K146.1
          obtain ⟨cq154, kq154, q154a, q154b, q154c⟩ := isOf hZ146 rfl A2_v149
          obtain ⟨_, _, ⟨T154, L154, k154, n154⟩, -, X154, ⟨Lc154, hQ154, l154, y154, z154⟩, st154⟩ := X146.virtualBack hx (y := (⟨"com/example/blend2/blend2/SlidingWindowLog", "isIdleAt", "(J)Z"⟩ : MethodName)) (z := (⟨"com/example/blend2/blend2/SlidingWindowLog", "isIdleAt", "(J)Z"⟩ : MethodName)) ho146 (mvT hZ146 (hw _ (List.mem_of_getElem? (i := 94) rfl))) (mvT hZ146 (hw _ (List.mem_of_getElem? (i := 95) rfl))) (notFace_of_selects (args := #[]) (mvT hZ146 (hw _ (List.mem_of_getElem? (i := 97) rfl)))) (mvT hZ146 (hw _ (List.mem_of_getElem? (i := 97) rfl))) (mvT hZ146 (hw _ (List.mem_of_getElem? (i := 96) rfl))) (by decide) (backOf (W := 0) (rmidl01_1_2 l Z a0 hw [] b2 (t2 + ee) da38 ea38 ka38 ((sc.toInt64) * (1000 : Int64)) y146 t2 T146.heap n0 Z0_v153 A2_v149 Fd38_v150 Fm38_v151 Ed38_v152 Fe146 Fh146 Ft146 Va146 Ov38 g_da38 g_ea38 Ey146 Fy146) hZ146 (hw _ (List.mem_of_getElem? (i := 98) rfl)) (hw _ (List.mem_of_getElem? (i := 10) rfl)) (by decide) (by decide)) q154a q154c (g := (mkF m 205 (LS_IIJsJsJsIIIJsJsJsJsJsJsRJsJsIJs p0 p1 q2 q3 q4 cp (2 : Int32) sc ((sc.toInt64) * (1000 : Int64)) (((2 : Int64) * ((sc.toInt64) * (1000 : Int64))) + (1 : Int64)) t1 dd ee t2 b2 t2 (t2 + ee) (0 : Int32) t2) [(.long (t2 + ee)), (.ref b2)])) rfl (by rw [hml]; rfl) (Steps.refl _) (argsL := [(.long (t2 + ee))]) (rest := []) (lenOf pd__J_Z rfl) rfl (by show 2 * 0 + _ ≤ _; exact Nat.le_of_eq rfl) (hb hby at_205) (fun _ _ => ⟨rfl, rfl, (by decide : 32 + 0 ≤ _), (by decide : 352 + 0 ≤ _)⟩)
          dsimp only [Pt.U, Pt.locs, Pt.cells, Pt.slots] at X154 l154 y154 z154 st154 hQ154
          subst l154 y154 z154
          obtain ⟨rfl, N154q, e154⟩ := hQ154
          have N154 := Fr.app N146 N154q
          refine own_go (B := T154.setTop (mkF m 208 (LS_IIJsJsJsIIIJsJsJsJsJsJsRJsJsIJs p0 p1 q2 q3 q4 cp (2 : Int32) sc ((sc.toInt64) * (1000 : Int64)) (((2 : Int64) * ((sc.toInt64) * (1000 : Int64))) + (1 : Int64)) t1 dd ee t2 b2 t2 (t2 + ee) (0 : Int32) t2) [(.int (if ((t2 + ee) - ((sc.toInt64) * (1000 : Int64))) < t2 then (0 : Int32) else (1 : Int32)))])) (fun t k => st154.trans k) ?_
          refine own_go (B := T154.setTop (mkF m 218 (LS_IIJsJsJsIIIJsJsJsJsJsJsRJsJsIJs p0 p1 q2 q3 q4 cp (2 : Int32) sc ((sc.toInt64) * (1000 : Int64)) (((2 : Int64) * ((sc.toInt64) * (1000 : Int64))) + (1 : Int64)) t1 dd ee t2 b2 t2 (t2 + ee) (0 : Int32) t2) [(.int (1 : Int32))])) (fun t k => ?_) ?_
          · refine XS.iload X154.here hx rfl (hb hby at_208) rfl ?_
            refine XS.icmpNo X154.here hx rfl (hb hby at_210) rfl (teq (if_pos hc191_148)).2 ?_
            show Steps p.tables e below (T154.setTop (mkF m 213 (LS_IIJsJsJsIIIJsJsJsJsJsJsRJsJsIJs p0 p1 q2 q3 q4 cp (2 : Int32) sc ((sc.toInt64) * (1000 : Int64)) (((2 : Int64) * ((sc.toInt64) * (1000 : Int64))) + (1 : Int64)) t1 dd ee t2 b2 t2 (t2 + ee) (0 : Int32) t2) [])) _
            refine XS.iconst X154.here hx rfl (hb hby at_213) ?_
            refine XS.goto X154.here hx rfl (pc0 := 214) (pc' := 218) rfl (hb hby at_214) (by decide) (by decide) ?_
            exact k
          obtain ⟨fs, hr, hrun, hended, hRW⟩ := Stand.leaveW (s := s) (vm₁ := T146.vm) X154 hS146 (by rw [e154]; exact hk146) (v := some (.int (1 : Int32))) (fun h => by rw [Bd.returns] at h; cases h) (BodyLoose.notSynchronized Bd)
          refine ⟨_, _, ?_, hrun, hended, _, _, rfl, ?_, hRW.1, hRW.2.1, hRW.2.2.1, hRW.2.2.2.mono (by decide) (by decide)⟩
          · show Steps p.tables e below (T154.setTop (mkF m 218 (LS_IIJsJsJsIIIJsJsJsJsJsJsRJsJsIJs p0 p1 q2 q3 q4 cp (2 : Int32) sc ((sc.toInt64) * (1000 : Int64)) (((2 : Int64) * ((sc.toInt64) * (1000 : Int64))) + (1 : Int64)) t1 dd ee t2 b2 t2 (t2 + ee) (0 : Int32) t2) [(.int (1 : Int32))])) _
            exact retN X154 hx (t := .boolean) Bd.returns (by simp) (hb hby at_218) hr
          · show Q0 Z p0 p1 q2 q3 q4 w_Algorithm_SLIDING_WINDOW_LOG w_StoreFailurePolicy_OPEN w_Duration_ZERO w_Long_LongCache_cache cc h0 n0 _ T154.heap _
            rw [e154]
            exact ⟨rfl, N154⟩
        · refine own_go (B := T146.setTop (mkF m 205 (LS_IIJsJsJsIIIJsJsJsJsJsJsRJsJsIJs p0 p1 q2 q3 q4 cp (2 : Int32) sc ((sc.toInt64) * (1000 : Int64)) (((2 : Int64) * ((sc.toInt64) * (1000 : Int64))) + (1 : Int64)) t1 dd ee t2 b2 t2 (t2 + ee) (1 : Int32) t2) [(.long (t2 + ee)), (.ref b2)])) (fun t k => ?_) ?_
          · refine XS.ifNo X146.here hx rfl (hb hby at_191) rfl ((if0 _ _).trans (flt (fun q => hc191_148 ((lw_gt t2 ((t2 + ee) - ((sc.toInt64) * (1000 : Int64)))).mp q))).2.2.1) ?_
            refine XS.iconst X146.here hx rfl (hb hby at_194) ?_
            show Steps p.tables e below (T146.setTop (mkF m 195 (LS_IIJsJsJsIIIJsJsJsJsJsJsRJsJsuJs p0 p1 q2 q3 q4 cp (2 : Int32) sc ((sc.toInt64) * (1000 : Int64)) (((2 : Int64) * ((sc.toInt64) * (1000 : Int64))) + (1 : Int64)) t1 dd ee t2 b2 t2 (t2 + ee) t2) [(.int (1 : Int32))])) _
            refine XS.goto X146.here hx rfl (pc0 := 195) (pc' := 199) rfl (hb hby at_195) (by decide) (by decide) ?_
            refine XS.istore X146.here hx rfl (hb hby at_199) rfl (l' := (LS_IIJsJsJsIIIJsJsJsJsJsJsRJsJsIJs p0 p1 q2 q3 q4 cp (2 : Int32) sc ((sc.toInt64) * (1000 : Int64)) (((2 : Int64) * ((sc.toInt64) * (1000 : Int64))) + (1 : Int64)) t1 dd ee t2 b2 t2 (t2 + ee) (1 : Int32) t2)) rfl ?_
            refine XS.aload X146.here hx rfl (hb hby at_201) rfl rfl ?_
            show Steps p.tables e below (T146.setTop (mkF m 203 (LS_IIJsJsJsIIIJsJsJsJsJsJsRJsJsIJs p0 p1 q2 q3 q4 cp (2 : Int32) sc ((sc.toInt64) * (1000 : Int64)) (((2 : Int64) * ((sc.toInt64) * (1000 : Int64))) + (1 : Int64)) t1 dd ee t2 b2 t2 (t2 + ee) (1 : Int32) t2) [(.ref b2)])) _
            refine XS.lload X146.here hx rfl (hb hby at_203) rfl ?_
            exact k
          have A2_v155 := A2_v127.keep K146
          have Fd38_v156 := Fd38_v128.keep K146 (ninS ne130 (ninS ne129 nin0))
          have Fm38_v157 := Fm38_v131.keep K146 (ninS ne130 (ninS ne129 nin0))
          have Ed38_v158 := Ed38_v132.keep K146
          have Z0_v159 := Nat.le_trans Z0_v133 K146.1
          obtain ⟨cq160, kq160, q160a, q160b, q160c⟩ := isOf hZ146 rfl A2_v155
          obtain ⟨_, _, ⟨T160, L160, k160, n160⟩, -, X160, ⟨Lc160, hQ160, l160, y160, z160⟩, st160⟩ := X146.virtualBack hx (y := (⟨"com/example/blend2/blend2/SlidingWindowLog", "isIdleAt", "(J)Z"⟩ : MethodName)) (z := (⟨"com/example/blend2/blend2/SlidingWindowLog", "isIdleAt", "(J)Z"⟩ : MethodName)) ho146 (mvT hZ146 (hw _ (List.mem_of_getElem? (i := 94) rfl))) (mvT hZ146 (hw _ (List.mem_of_getElem? (i := 95) rfl))) (notFace_of_selects (args := #[]) (mvT hZ146 (hw _ (List.mem_of_getElem? (i := 97) rfl)))) (mvT hZ146 (hw _ (List.mem_of_getElem? (i := 97) rfl))) (mvT hZ146 (hw _ (List.mem_of_getElem? (i := 96) rfl))) (by decide) (backOf (W := 0) (rmidl01_1_2 l Z a0 hw [] b2 (t2 + ee) da38 ea38 ka38 ((sc.toInt64) * (1000 : Int64)) y146 t2 T146.heap n0 Z0_v159 A2_v155 Fd38_v156 Fm38_v157 Ed38_v158 Fe146 Fh146 Ft146 Va146 Ov38 g_da38 g_ea38 Ey146 Fy146) hZ146 (hw _ (List.mem_of_getElem? (i := 98) rfl)) (hw _ (List.mem_of_getElem? (i := 10) rfl)) (by decide) (by decide)) q160a q160c (g := (mkF m 205 (LS_IIJsJsJsIIIJsJsJsJsJsJsRJsJsIJs p0 p1 q2 q3 q4 cp (2 : Int32) sc ((sc.toInt64) * (1000 : Int64)) (((2 : Int64) * ((sc.toInt64) * (1000 : Int64))) + (1 : Int64)) t1 dd ee t2 b2 t2 (t2 + ee) (1 : Int32) t2) [(.long (t2 + ee)), (.ref b2)])) rfl (by rw [hml]; rfl) (Steps.refl _) (argsL := [(.long (t2 + ee))]) (rest := []) (lenOf pd__J_Z rfl) rfl (by show 2 * 0 + _ ≤ _; exact Nat.le_of_eq rfl) (hb hby at_205) (fun _ _ => ⟨rfl, rfl, (by decide : 32 + 0 ≤ _), (by decide : 352 + 0 ≤ _)⟩)
          dsimp only [Pt.U, Pt.locs, Pt.cells, Pt.slots] at X160 l160 y160 z160 st160 hQ160
          subst l160 y160 z160
          obtain ⟨rfl, N160q, e160⟩ := hQ160
          have N160 := Fr.app N146 N160q
          refine own_go (B := T160.setTop (mkF m 208 (LS_IIJsJsJsIIIJsJsJsJsJsJsRJsJsIJs p0 p1 q2 q3 q4 cp (2 : Int32) sc ((sc.toInt64) * (1000 : Int64)) (((2 : Int64) * ((sc.toInt64) * (1000 : Int64))) + (1 : Int64)) t1 dd ee t2 b2 t2 (t2 + ee) (1 : Int32) t2) [(.int (if ((t2 + ee) - ((sc.toInt64) * (1000 : Int64))) < t2 then (0 : Int32) else (1 : Int32)))])) (fun t k => st160.trans k) ?_
          refine own_go (B := T160.setTop (mkF m 218 (LS_IIJsJsJsIIIJsJsJsJsJsJsRJsJsIJs p0 p1 q2 q3 q4 cp (2 : Int32) sc ((sc.toInt64) * (1000 : Int64)) (((2 : Int64) * ((sc.toInt64) * (1000 : Int64))) + (1 : Int64)) t1 dd ee t2 b2 t2 (t2 + ee) (1 : Int32) t2) [(.int (1 : Int32))])) (fun t k => ?_) ?_
          · refine XS.iload X160.here hx rfl (hb hby at_208) rfl ?_
            refine XS.icmpNo X160.here hx rfl (hb hby at_210) rfl (teq (if_neg hc191_148)).2 ?_
            show Steps p.tables e below (T160.setTop (mkF m 213 (LS_IIJsJsJsIIIJsJsJsJsJsJsRJsJsIJs p0 p1 q2 q3 q4 cp (2 : Int32) sc ((sc.toInt64) * (1000 : Int64)) (((2 : Int64) * ((sc.toInt64) * (1000 : Int64))) + (1 : Int64)) t1 dd ee t2 b2 t2 (t2 + ee) (1 : Int32) t2) [])) _
            refine XS.iconst X160.here hx rfl (hb hby at_213) ?_
            refine XS.goto X160.here hx rfl (pc0 := 214) (pc' := 218) rfl (hb hby at_214) (by decide) (by decide) ?_
            exact k
          obtain ⟨fs, hr, hrun, hended, hRW⟩ := Stand.leaveW (s := s) (vm₁ := T146.vm) X160 hS146 (by rw [e160]; exact hk146) (v := some (.int (1 : Int32))) (fun h => by rw [Bd.returns] at h; cases h) (BodyLoose.notSynchronized Bd)
          refine ⟨_, _, ?_, hrun, hended, _, _, rfl, ?_, hRW.1, hRW.2.1, hRW.2.2.1, hRW.2.2.2.mono (by decide) (by decide)⟩
          · show Steps p.tables e below (T160.setTop (mkF m 218 (LS_IIJsJsJsIIIJsJsJsJsJsJsRJsJsIJs p0 p1 q2 q3 q4 cp (2 : Int32) sc ((sc.toInt64) * (1000 : Int64)) (((2 : Int64) * ((sc.toInt64) * (1000 : Int64))) + (1 : Int64)) t1 dd ee t2 b2 t2 (t2 + ee) (1 : Int32) t2) [(.int (1 : Int32))])) _
            exact retN X160 hx (t := .boolean) Bd.returns (by simp) (hb hby at_218) hr
          · show Q0 Z p0 p1 q2 q3 q4 w_Algorithm_SLIDING_WINDOW_LOG w_StoreFailurePolicy_OPEN w_Duration_ZERO w_Long_LongCache_cache cc h0 n0 _ T160.heap _
            rw [e160]
            exact ⟨rfl, N160⟩
      · refine own_go (B := T146.setTop (mkF m 191 (LS_IIJsJsJsIIIJsJsJsJsJsJsRJsJsuJs p0 p1 q2 q3 q4 cp (2 : Int32) sc ((sc.toInt64) * (1000 : Int64)) (((2 : Int64) * ((sc.toInt64) * (1000 : Int64))) + (1 : Int64)) t1 dd ee t2 b2 t2 (t2 + ee) t2) [(.int (lcmpW t2 ((t2 + ee) - ((sc.toInt64) * (1000 : Int64)))))])) (fun t k => ?_) ?_
        · refine XS.icmpNo X146.here hx rfl (hb hby at_168) rfl (feq hc168_147).1 ?_
          refine XS.lload X146.here hx rfl (hb hby at_171) rfl ?_
          show Steps p.tables e below (T146.setTop (mkF m 173 (LS_IIJsJsJsIIIJsJsJsJsJsJsRJsJsuJs p0 p1 q2 q3 q4 cp (2 : Int32) sc ((sc.toInt64) * (1000 : Int64)) (((2 : Int64) * ((sc.toInt64) * (1000 : Int64))) + (1 : Int64)) t1 dd ee t2 b2 t2 (t2 + ee) t1) [(.long dd)])) _
          refine XS.lload X146.here hx rfl (hb hby at_173) rfl ?_
          refine XS.lcmp X146.here hx rfl (hb hby at_175) rfl ?_
          refine XS.ifNo X146.here hx rfl (hb hby at_176) rfl ((if0 _ _).trans (flt (fun q => (fun z => hlt146 (hdw.mpr z)) ((lw_lt dd ((sc.toInt64) * (1000 : Int64))).mp q))).1) ?_
          show Steps p.tables e below (T146.setTop (mkF m 179 (LS_IIJsJsJsIIIJsJsJsJsJsJsRJsJsuJs p0 p1 q2 q3 q4 cp (2 : Int32) sc ((sc.toInt64) * (1000 : Int64)) (((2 : Int64) * ((sc.toInt64) * (1000 : Int64))) + (1 : Int64)) t1 dd ee t2 b2 t2 (t2 + ee) t1) [])) _
          refine XS.lload X146.here hx rfl (hb hby at_179) rfl ?_
          refine XS.lstore X146.here hx rfl (hb hby at_181) rfl (l' := (LS_IIJsJsJsIIIJsJsJsJsJsJsRJsJsuJs p0 p1 q2 q3 q4 cp (2 : Int32) sc ((sc.toInt64) * (1000 : Int64)) (((2 : Int64) * ((sc.toInt64) * (1000 : Int64))) + (1 : Int64)) t1 dd ee t2 b2 t2 (t2 + ee) t2)) rfl ?_
          refine XS.lload X146.here hx rfl (hb hby at_183) rfl ?_
          show Steps p.tables e below (T146.setTop (mkF m 185 (LS_IIJsJsJsIIIJsJsJsJsJsJsRJsJsuJs p0 p1 q2 q3 q4 cp (2 : Int32) sc ((sc.toInt64) * (1000 : Int64)) (((2 : Int64) * ((sc.toInt64) * (1000 : Int64))) + (1 : Int64)) t1 dd ee t2 b2 t2 (t2 + ee) t2) [(.long t2)])) _
          refine XS.lload X146.here hx rfl (hb hby at_185) rfl ?_
          refine XS.lload X146.here hx rfl (hb hby at_187) rfl ?_
          refine XS.lsub X146.here hx rfl (hb hby at_189) rfl ?_
          show Steps p.tables e below (T146.setTop (mkF m 190 (LS_IIJsJsJsIIIJsJsJsJsJsJsRJsJsuJs p0 p1 q2 q3 q4 cp (2 : Int32) sc ((sc.toInt64) * (1000 : Int64)) (((2 : Int64) * ((sc.toInt64) * (1000 : Int64))) + (1 : Int64)) t1 dd ee t2 b2 t2 (t2 + ee) t2) [(.long ((t2 + ee) - ((sc.toInt64) * (1000 : Int64)))), (.long t2)])) _
          refine XS.lcmp X146.here hx rfl (hb hby at_190) rfl ?_
          exact k
        by_cases hc191_161 : ((t2 + ee) - ((sc.toInt64) * (1000 : Int64))) < t2
        · refine own_go (B := T146.setTop (mkF m 205 (LS_IIJsJsJsIIIJsJsJsJsJsJsRJsJsIJs p0 p1 q2 q3 q4 cp (2 : Int32) sc ((sc.toInt64) * (1000 : Int64)) (((2 : Int64) * ((sc.toInt64) * (1000 : Int64))) + (1 : Int64)) t1 dd ee t2 b2 t2 (t2 + ee) (0 : Int32) t2) [(.long (t2 + ee)), (.ref b2)])) (fun t k => ?_) ?_
          · refine XS.ifYes X146.here hx rfl (pc0 := 191) (pc' := 198) rfl (hb hby at_191) rfl ((if0 _ _).trans (tlt ((lw_gt t2 ((t2 + ee) - ((sc.toInt64) * (1000 : Int64)))).mpr hc191_161)).2.2.1) (by decide) (by decide) ?_
            refine XS.iconst X146.here hx rfl (hb hby at_198) ?_
            show Steps p.tables e below (T146.setTop (mkF m 199 (LS_IIJsJsJsIIIJsJsJsJsJsJsRJsJsuJs p0 p1 q2 q3 q4 cp (2 : Int32) sc ((sc.toInt64) * (1000 : Int64)) (((2 : Int64) * ((sc.toInt64) * (1000 : Int64))) + (1 : Int64)) t1 dd ee t2 b2 t2 (t2 + ee) t2) [(.int (0 : Int32))])) _
            refine XS.istore X146.here hx rfl (hb hby at_199) rfl (l' := (LS_IIJsJsJsIIIJsJsJsJsJsJsRJsJsIJs p0 p1 q2 q3 q4 cp (2 : Int32) sc ((sc.toInt64) * (1000 : Int64)) (((2 : Int64) * ((sc.toInt64) * (1000 : Int64))) + (1 : Int64)) t1 dd ee t2 b2 t2 (t2 + ee) (0 : Int32) t2)) rfl ?_
            refine XS.aload X146.here hx rfl (hb hby at_201) rfl rfl ?_
            refine XS.lload X146.here hx rfl (hb hby at_203) rfl ?_
            exact k
          have A2_v162 := A2_v127.keep K146
          have Fd38_v163 := Fd38_v128.keep K146 (ninS ne130 (ninS ne129 nin0))
          have Fm38_v164 := Fm38_v131.keep K146 (ninS ne130 (ninS ne129 nin0))
          have Ed38_v165 := Ed38_v132.keep K146
          have Z0_v166 := Nat.le_trans Z0_v133 K146.1
          obtain ⟨cq167, kq167, q167a, q167b, q167c⟩ := isOf hZ146 rfl A2_v162
          obtain ⟨_, _, ⟨T167, L167, k167, n167⟩, -, X167, ⟨Lc167, hQ167, l167, y167, z167⟩, st167⟩ := X146.virtualBack hx (y := (⟨"com/example/blend2/blend2/SlidingWindowLog", "isIdleAt", "(J)Z"⟩ : MethodName)) (z := (⟨"com/example/blend2/blend2/SlidingWindowLog", "isIdleAt", "(J)Z"⟩ : MethodName)) ho146 (mvT hZ146 (hw _ (List.mem_of_getElem? (i := 94) rfl))) (mvT hZ146 (hw _ (List.mem_of_getElem? (i := 95) rfl))) (notFace_of_selects (args := #[]) (mvT hZ146 (hw _ (List.mem_of_getElem? (i := 97) rfl)))) (mvT hZ146 (hw _ (List.mem_of_getElem? (i := 97) rfl))) (mvT hZ146 (hw _ (List.mem_of_getElem? (i := 96) rfl))) (by decide) (backOf (W := 0) (rmidl01_1_2 l Z a0 hw [] b2 (t2 + ee) da38 ea38 ka38 ((sc.toInt64) * (1000 : Int64)) y146 t2 T146.heap n0 Z0_v166 A2_v162 Fd38_v163 Fm38_v164 Ed38_v165 Fe146 Fh146 Ft146 Va146 Ov38 g_da38 g_ea38 Ey146 Fy146) hZ146 (hw _ (List.mem_of_getElem? (i := 98) rfl)) (hw _ (List.mem_of_getElem? (i := 10) rfl)) (by decide) (by decide)) q167a q167c (g := (mkF m 205 (LS_IIJsJsJsIIIJsJsJsJsJsJsRJsJsIJs p0 p1 q2 q3 q4 cp (2 : Int32) sc ((sc.toInt64) * (1000 : Int64)) (((2 : Int64) * ((sc.toInt64) * (1000 : Int64))) + (1 : Int64)) t1 dd ee t2 b2 t2 (t2 + ee) (0 : Int32) t2) [(.long (t2 + ee)), (.ref b2)])) rfl (by rw [hml]; rfl) (Steps.refl _) (argsL := [(.long (t2 + ee))]) (rest := []) (lenOf pd__J_Z rfl) rfl (by show 2 * 0 + _ ≤ _; exact Nat.le_of_eq rfl) (hb hby at_205) (fun _ _ => ⟨rfl, rfl, (by decide : 32 + 0 ≤ _), (by decide : 352 + 0 ≤ _)⟩)
          dsimp only [Pt.U, Pt.locs, Pt.cells, Pt.slots] at X167 l167 y167 z167 st167 hQ167
          subst l167 y167 z167
          obtain ⟨rfl, N167q, e167⟩ := hQ167
          have N167 := Fr.app N146 N167q
          refine own_go (B := T167.setTop (mkF m 208 (LS_IIJsJsJsIIIJsJsJsJsJsJsRJsJsIJs p0 p1 q2 q3 q4 cp (2 : Int32) sc ((sc.toInt64) * (1000 : Int64)) (((2 : Int64) * ((sc.toInt64) * (1000 : Int64))) + (1 : Int64)) t1 dd ee t2 b2 t2 (t2 + ee) (0 : Int32) t2) [(.int (if ((t2 + ee) - ((sc.toInt64) * (1000 : Int64))) < t2 then (0 : Int32) else (1 : Int32)))])) (fun t k => st167.trans k) ?_
          refine own_go (B := T167.setTop (mkF m 218 (LS_IIJsJsJsIIIJsJsJsJsJsJsRJsJsIJs p0 p1 q2 q3 q4 cp (2 : Int32) sc ((sc.toInt64) * (1000 : Int64)) (((2 : Int64) * ((sc.toInt64) * (1000 : Int64))) + (1 : Int64)) t1 dd ee t2 b2 t2 (t2 + ee) (0 : Int32) t2) [(.int (1 : Int32))])) (fun t k => ?_) ?_
          · refine XS.iload X167.here hx rfl (hb hby at_208) rfl ?_
            refine XS.icmpNo X167.here hx rfl (hb hby at_210) rfl (teq (if_pos hc191_161)).2 ?_
            show Steps p.tables e below (T167.setTop (mkF m 213 (LS_IIJsJsJsIIIJsJsJsJsJsJsRJsJsIJs p0 p1 q2 q3 q4 cp (2 : Int32) sc ((sc.toInt64) * (1000 : Int64)) (((2 : Int64) * ((sc.toInt64) * (1000 : Int64))) + (1 : Int64)) t1 dd ee t2 b2 t2 (t2 + ee) (0 : Int32) t2) [])) _
            refine XS.iconst X167.here hx rfl (hb hby at_213) ?_
            refine XS.goto X167.here hx rfl (pc0 := 214) (pc' := 218) rfl (hb hby at_214) (by decide) (by decide) ?_
            exact k
          obtain ⟨fs, hr, hrun, hended, hRW⟩ := Stand.leaveW (s := s) (vm₁ := T146.vm) X167 hS146 (by rw [e167]; exact hk146) (v := some (.int (1 : Int32))) (fun h => by rw [Bd.returns] at h; cases h) (BodyLoose.notSynchronized Bd)
          refine ⟨_, _, ?_, hrun, hended, _, _, rfl, ?_, hRW.1, hRW.2.1, hRW.2.2.1, hRW.2.2.2.mono (by decide) (by decide)⟩
          · show Steps p.tables e below (T167.setTop (mkF m 218 (LS_IIJsJsJsIIIJsJsJsJsJsJsRJsJsIJs p0 p1 q2 q3 q4 cp (2 : Int32) sc ((sc.toInt64) * (1000 : Int64)) (((2 : Int64) * ((sc.toInt64) * (1000 : Int64))) + (1 : Int64)) t1 dd ee t2 b2 t2 (t2 + ee) (0 : Int32) t2) [(.int (1 : Int32))])) _
            exact retN X167 hx (t := .boolean) Bd.returns (by simp) (hb hby at_218) hr
          · show Q0 Z p0 p1 q2 q3 q4 w_Algorithm_SLIDING_WINDOW_LOG w_StoreFailurePolicy_OPEN w_Duration_ZERO w_Long_LongCache_cache cc h0 n0 _ T167.heap _
            rw [e167]
            exact ⟨rfl, N167⟩
        · refine own_go (B := T146.setTop (mkF m 205 (LS_IIJsJsJsIIIJsJsJsJsJsJsRJsJsIJs p0 p1 q2 q3 q4 cp (2 : Int32) sc ((sc.toInt64) * (1000 : Int64)) (((2 : Int64) * ((sc.toInt64) * (1000 : Int64))) + (1 : Int64)) t1 dd ee t2 b2 t2 (t2 + ee) (1 : Int32) t2) [(.long (t2 + ee)), (.ref b2)])) (fun t k => ?_) ?_
          · refine XS.ifNo X146.here hx rfl (hb hby at_191) rfl ((if0 _ _).trans (flt (fun q => hc191_161 ((lw_gt t2 ((t2 + ee) - ((sc.toInt64) * (1000 : Int64)))).mp q))).2.2.1) ?_
            refine XS.iconst X146.here hx rfl (hb hby at_194) ?_
            show Steps p.tables e below (T146.setTop (mkF m 195 (LS_IIJsJsJsIIIJsJsJsJsJsJsRJsJsuJs p0 p1 q2 q3 q4 cp (2 : Int32) sc ((sc.toInt64) * (1000 : Int64)) (((2 : Int64) * ((sc.toInt64) * (1000 : Int64))) + (1 : Int64)) t1 dd ee t2 b2 t2 (t2 + ee) t2) [(.int (1 : Int32))])) _
            refine XS.goto X146.here hx rfl (pc0 := 195) (pc' := 199) rfl (hb hby at_195) (by decide) (by decide) ?_
            refine XS.istore X146.here hx rfl (hb hby at_199) rfl (l' := (LS_IIJsJsJsIIIJsJsJsJsJsJsRJsJsIJs p0 p1 q2 q3 q4 cp (2 : Int32) sc ((sc.toInt64) * (1000 : Int64)) (((2 : Int64) * ((sc.toInt64) * (1000 : Int64))) + (1 : Int64)) t1 dd ee t2 b2 t2 (t2 + ee) (1 : Int32) t2)) rfl ?_
            refine XS.aload X146.here hx rfl (hb hby at_201) rfl rfl ?_
            show Steps p.tables e below (T146.setTop (mkF m 203 (LS_IIJsJsJsIIIJsJsJsJsJsJsRJsJsIJs p0 p1 q2 q3 q4 cp (2 : Int32) sc ((sc.toInt64) * (1000 : Int64)) (((2 : Int64) * ((sc.toInt64) * (1000 : Int64))) + (1 : Int64)) t1 dd ee t2 b2 t2 (t2 + ee) (1 : Int32) t2) [(.ref b2)])) _
            refine XS.lload X146.here hx rfl (hb hby at_203) rfl ?_
            exact k
          have A2_v168 := A2_v127.keep K146
          have Fd38_v169 := Fd38_v128.keep K146 (ninS ne130 (ninS ne129 nin0))
          have Fm38_v170 := Fm38_v131.keep K146 (ninS ne130 (ninS ne129 nin0))
          have Ed38_v171 := Ed38_v132.keep K146
          have Z0_v172 := Nat.le_trans Z0_v133 K146.1
          obtain ⟨cq173, kq173, q173a, q173b, q173c⟩ := isOf hZ146 rfl A2_v168
          obtain ⟨_, _, ⟨T173, L173, k173, n173⟩, -, X173, ⟨Lc173, hQ173, l173, y173, z173⟩, st173⟩ := X146.virtualBack hx (y := (⟨"com/example/blend2/blend2/SlidingWindowLog", "isIdleAt", "(J)Z"⟩ : MethodName)) (z := (⟨"com/example/blend2/blend2/SlidingWindowLog", "isIdleAt", "(J)Z"⟩ : MethodName)) ho146 (mvT hZ146 (hw _ (List.mem_of_getElem? (i := 94) rfl))) (mvT hZ146 (hw _ (List.mem_of_getElem? (i := 95) rfl))) (notFace_of_selects (args := #[]) (mvT hZ146 (hw _ (List.mem_of_getElem? (i := 97) rfl)))) (mvT hZ146 (hw _ (List.mem_of_getElem? (i := 97) rfl))) (mvT hZ146 (hw _ (List.mem_of_getElem? (i := 96) rfl))) (by decide) (backOf (W := 0) (rmidl01_1_2 l Z a0 hw [] b2 (t2 + ee) da38 ea38 ka38 ((sc.toInt64) * (1000 : Int64)) y146 t2 T146.heap n0 Z0_v172 A2_v168 Fd38_v169 Fm38_v170 Ed38_v171 Fe146 Fh146 Ft146 Va146 Ov38 g_da38 g_ea38 Ey146 Fy146) hZ146 (hw _ (List.mem_of_getElem? (i := 98) rfl)) (hw _ (List.mem_of_getElem? (i := 10) rfl)) (by decide) (by decide)) q173a q173c (g := (mkF m 205 (LS_IIJsJsJsIIIJsJsJsJsJsJsRJsJsIJs p0 p1 q2 q3 q4 cp (2 : Int32) sc ((sc.toInt64) * (1000 : Int64)) (((2 : Int64) * ((sc.toInt64) * (1000 : Int64))) + (1 : Int64)) t1 dd ee t2 b2 t2 (t2 + ee) (1 : Int32) t2) [(.long (t2 + ee)), (.ref b2)])) rfl (by rw [hml]; rfl) (Steps.refl _) (argsL := [(.long (t2 + ee))]) (rest := []) (lenOf pd__J_Z rfl) rfl (by show 2 * 0 + _ ≤ _; exact Nat.le_of_eq rfl) (hb hby at_205) (fun _ _ => ⟨rfl, rfl, (by decide : 32 + 0 ≤ _), (by decide : 352 + 0 ≤ _)⟩)
          dsimp only [Pt.U, Pt.locs, Pt.cells, Pt.slots] at X173 l173 y173 z173 st173 hQ173
          subst l173 y173 z173
          obtain ⟨rfl, N173q, e173⟩ := hQ173
          have N173 := Fr.app N146 N173q
          refine own_go (B := T173.setTop (mkF m 208 (LS_IIJsJsJsIIIJsJsJsJsJsJsRJsJsIJs p0 p1 q2 q3 q4 cp (2 : Int32) sc ((sc.toInt64) * (1000 : Int64)) (((2 : Int64) * ((sc.toInt64) * (1000 : Int64))) + (1 : Int64)) t1 dd ee t2 b2 t2 (t2 + ee) (1 : Int32) t2) [(.int (if ((t2 + ee) - ((sc.toInt64) * (1000 : Int64))) < t2 then (0 : Int32) else (1 : Int32)))])) (fun t k => st173.trans k) ?_
          refine own_go (B := T173.setTop (mkF m 218 (LS_IIJsJsJsIIIJsJsJsJsJsJsRJsJsIJs p0 p1 q2 q3 q4 cp (2 : Int32) sc ((sc.toInt64) * (1000 : Int64)) (((2 : Int64) * ((sc.toInt64) * (1000 : Int64))) + (1 : Int64)) t1 dd ee t2 b2 t2 (t2 + ee) (1 : Int32) t2) [(.int (1 : Int32))])) (fun t k => ?_) ?_
          · refine XS.iload X173.here hx rfl (hb hby at_208) rfl ?_
            refine XS.icmpNo X173.here hx rfl (hb hby at_210) rfl (teq (if_neg hc191_161)).2 ?_
            show Steps p.tables e below (T173.setTop (mkF m 213 (LS_IIJsJsJsIIIJsJsJsJsJsJsRJsJsIJs p0 p1 q2 q3 q4 cp (2 : Int32) sc ((sc.toInt64) * (1000 : Int64)) (((2 : Int64) * ((sc.toInt64) * (1000 : Int64))) + (1 : Int64)) t1 dd ee t2 b2 t2 (t2 + ee) (1 : Int32) t2) [])) _
            refine XS.iconst X173.here hx rfl (hb hby at_213) ?_
            refine XS.goto X173.here hx rfl (pc0 := 214) (pc' := 218) rfl (hb hby at_214) (by decide) (by decide) ?_
            exact k
          obtain ⟨fs, hr, hrun, hended, hRW⟩ := Stand.leaveW (s := s) (vm₁ := T146.vm) X173 hS146 (by rw [e173]; exact hk146) (v := some (.int (1 : Int32))) (fun h => by rw [Bd.returns] at h; cases h) (BodyLoose.notSynchronized Bd)
          refine ⟨_, _, ?_, hrun, hended, _, _, rfl, ?_, hRW.1, hRW.2.1, hRW.2.2.1, hRW.2.2.2.mono (by decide) (by decide)⟩
          · show Steps p.tables e below (T173.setTop (mkF m 218 (LS_IIJsJsJsIIIJsJsJsJsJsJsRJsJsIJs p0 p1 q2 q3 q4 cp (2 : Int32) sc ((sc.toInt64) * (1000 : Int64)) (((2 : Int64) * ((sc.toInt64) * (1000 : Int64))) + (1 : Int64)) t1 dd ee t2 b2 t2 (t2 + ee) (1 : Int32) t2) [(.int (1 : Int32))])) _
            exact retN X173 hx (t := .boolean) Bd.returns (by simp) (hb hby at_218) hr
          · show Q0 Z p0 p1 q2 q3 q4 w_Algorithm_SLIDING_WINDOW_LOG w_StoreFailurePolicy_OPEN w_Duration_ZERO w_Long_LongCache_cache cc h0 n0 _ T173.heap _
            rw [e173]
            exact ⟨rfl, N173⟩
    · refine own_go (B := T146.setTop (mkF m 191 (LS_IIJsJsJsIIIJsJsJsJsJsJsRJsJsuJs p0 p1 q2 q3 q4 cp (2 : Int32) sc ((sc.toInt64) * (1000 : Int64)) (((2 : Int64) * ((sc.toInt64) * (1000 : Int64))) + (1 : Int64)) t1 dd ee t2 b2 t2 (t2 + ee) t2) [(.int (lcmpW t2 ((t2 + ee) - ((sc.toInt64) * (1000 : Int64)))))])) (fun t k => ?_) ?_
      · refine XS.pop X146.here hx rfl (hb hby at_132) rfl rfl ?_
        refine XS.lload X146.here hx rfl (hb hby at_133) rfl ?_
        show Steps p.tables e below (T146.setTop (mkF m 135 (LS_IIJsJsJsIIIJsJsJsJsJsJsRJsuuuuu p0 p1 q2 q3 q4 cp (2 : Int32) sc ((sc.toInt64) * (1000 : Int64)) (((2 : Int64) * ((sc.toInt64) * (1000 : Int64))) + (1 : Int64)) t1 dd ee t2 b2 t1) [(.long t2)])) _
        refine XS.lstore X146.here hx rfl (hb hby at_135) rfl (l' := (LS_IIJsJsJsIIIJsJsJsJsJsJsRJsuuuuu p0 p1 q2 q3 q4 cp (2 : Int32) sc ((sc.toInt64) * (1000 : Int64)) (((2 : Int64) * ((sc.toInt64) * (1000 : Int64))) + (1 : Int64)) t1 dd ee t2 b2 t2)) rfl ?_
        refine XS.lload X146.here hx rfl (hb hby at_137) rfl ?_
        refine XS.lload X146.here hx rfl (hb hby at_139) rfl ?_
        show Steps p.tables e below (T146.setTop (mkF m 141 (LS_IIJsJsJsIIIJsJsJsJsJsJsRJsuuuuu p0 p1 q2 q3 q4 cp (2 : Int32) sc ((sc.toInt64) * (1000 : Int64)) (((2 : Int64) * ((sc.toInt64) * (1000 : Int64))) + (1 : Int64)) t1 dd ee t2 b2 t2) [(.long ee), (.long t2)])) _
        refine XS.ladd X146.here hx rfl (hb hby at_141) rfl ?_
        refine XS.lstore X146.here hx rfl (hb hby at_142) rfl (l' := (LS_IIJsJsJsIIIJsJsJsJsJsJsRJsJsuuu p0 p1 q2 q3 q4 cp (2 : Int32) sc ((sc.toInt64) * (1000 : Int64)) (((2 : Int64) * ((sc.toInt64) * (1000 : Int64))) + (1 : Int64)) t1 dd ee t2 b2 t2 (t2 + ee))) rfl ?_
        refine XS.iload X146.here hx rfl (hb hby at_144) rfl ?_
        show Steps p.tables e below (T146.setTop (mkF m 146 (LS_IIJsJsJsIIIJsJsJsJsJsJsRJsJsuuu p0 p1 q2 q3 q4 cp (2 : Int32) sc ((sc.toInt64) * (1000 : Int64)) (((2 : Int64) * ((sc.toInt64) * (1000 : Int64))) + (1 : Int64)) t1 dd ee t2 b2 t2 (t2 + ee)) [(.int (2 : Int32))])) _
        refine XS.ifYes X146.here hx rfl (pc0 := 146) (pc' := 155) rfl (hb hby at_146) rfl ((if0 _ _).trans (feq (by decide : ¬ ((2 : Int32) = (0 : Int32)))).2) (by decide) (by decide) ?_
        refine XS.lload X146.here hx rfl (hb hby at_155) rfl ?_
        refine XS.lstore X146.here hx rfl (hb hby at_157) rfl (l' := (LS_IIJsJsJsIIIJsJsJsJsJsJsRJsJsuJs p0 p1 q2 q3 q4 cp (2 : Int32) sc ((sc.toInt64) * (1000 : Int64)) (((2 : Int64) * ((sc.toInt64) * (1000 : Int64))) + (1 : Int64)) t1 dd ee t2 b2 t2 (t2 + ee) t1)) rfl ?_
        show Steps p.tables e below (T146.setTop (mkF m 159 (LS_IIJsJsJsIIIJsJsJsJsJsJsRJsJsuJs p0 p1 q2 q3 q4 cp (2 : Int32) sc ((sc.toInt64) * (1000 : Int64)) (((2 : Int64) * ((sc.toInt64) * (1000 : Int64))) + (1 : Int64)) t1 dd ee t2 b2 t2 (t2 + ee) t1) [])) _
        refine XS.iload X146.here hx rfl (hb hby at_159) rfl ?_
        refine XS.iconst X146.here hx rfl (hb hby at_161) ?_
        refine XS.icmpNo X146.here hx rfl (hb hby at_162) rfl (teq (by decide : (2 : Int32) = (2 : Int32))).2 ?_
        show Steps p.tables e below (T146.setTop (mkF m 165 (LS_IIJsJsJsIIIJsJsJsJsJsJsRJsJsuJs p0 p1 q2 q3 q4 cp (2 : Int32) sc ((sc.toInt64) * (1000 : Int64)) (((2 : Int64) * ((sc.toInt64) * (1000 : Int64))) + (1 : Int64)) t1 dd ee t2 b2 t2 (t2 + ee) t1) [])) _
        refine XS.iload X146.here hx rfl (hb hby at_165) rfl ?_
        refine XS.iconst X146.here hx rfl (hb hby at_167) ?_
        refine XS.icmpYes X146.here hx rfl (pc0 := 168) (pc' := 179) rfl (hb hby at_168) rfl (teq (htwo.mp h1c146)).1 (by decide) (by decide) ?_
        show Steps p.tables e below (T146.setTop (mkF m 179 (LS_IIJsJsJsIIIJsJsJsJsJsJsRJsJsuJs p0 p1 q2 q3 q4 cp (2 : Int32) sc ((sc.toInt64) * (1000 : Int64)) (((2 : Int64) * ((sc.toInt64) * (1000 : Int64))) + (1 : Int64)) t1 dd ee t2 b2 t2 (t2 + ee) t1) [])) _
        refine XS.lload X146.here hx rfl (hb hby at_179) rfl ?_
        refine XS.lstore X146.here hx rfl (hb hby at_181) rfl (l' := (LS_IIJsJsJsIIIJsJsJsJsJsJsRJsJsuJs p0 p1 q2 q3 q4 cp (2 : Int32) sc ((sc.toInt64) * (1000 : Int64)) (((2 : Int64) * ((sc.toInt64) * (1000 : Int64))) + (1 : Int64)) t1 dd ee t2 b2 t2 (t2 + ee) t2)) rfl ?_
        refine XS.lload X146.here hx rfl (hb hby at_183) rfl ?_
        show Steps p.tables e below (T146.setTop (mkF m 185 (LS_IIJsJsJsIIIJsJsJsJsJsJsRJsJsuJs p0 p1 q2 q3 q4 cp (2 : Int32) sc ((sc.toInt64) * (1000 : Int64)) (((2 : Int64) * ((sc.toInt64) * (1000 : Int64))) + (1 : Int64)) t1 dd ee t2 b2 t2 (t2 + ee) t2) [(.long t2)])) _
        refine XS.lload X146.here hx rfl (hb hby at_185) rfl ?_
        refine XS.lload X146.here hx rfl (hb hby at_187) rfl ?_
        refine XS.lsub X146.here hx rfl (hb hby at_189) rfl ?_
        show Steps p.tables e below (T146.setTop (mkF m 190 (LS_IIJsJsJsIIIJsJsJsJsJsJsRJsJsuJs p0 p1 q2 q3 q4 cp (2 : Int32) sc ((sc.toInt64) * (1000 : Int64)) (((2 : Int64) * ((sc.toInt64) * (1000 : Int64))) + (1 : Int64)) t1 dd ee t2 b2 t2 (t2 + ee) t2) [(.long ((t2 + ee) - ((sc.toInt64) * (1000 : Int64)))), (.long t2)])) _
        refine XS.lcmp X146.here hx rfl (hb hby at_190) rfl ?_
        exact k
      by_cases hc191_174 : ((t2 + ee) - ((sc.toInt64) * (1000 : Int64))) < t2
      · refine own_go (B := T146.setTop (mkF m 205 (LS_IIJsJsJsIIIJsJsJsJsJsJsRJsJsIJs p0 p1 q2 q3 q4 cp (2 : Int32) sc ((sc.toInt64) * (1000 : Int64)) (((2 : Int64) * ((sc.toInt64) * (1000 : Int64))) + (1 : Int64)) t1 dd ee t2 b2 t2 (t2 + ee) (0 : Int32) t2) [(.long (t2 + ee)), (.ref b2)])) (fun t k => ?_) ?_
        · refine XS.ifYes X146.here hx rfl (pc0 := 191) (pc' := 198) rfl (hb hby at_191) rfl ((if0 _ _).trans (tlt ((lw_gt t2 ((t2 + ee) - ((sc.toInt64) * (1000 : Int64)))).mpr hc191_174)).2.2.1) (by decide) (by decide) ?_
          refine XS.iconst X146.here hx rfl (hb hby at_198) ?_
          show Steps p.tables e below (T146.setTop (mkF m 199 (LS_IIJsJsJsIIIJsJsJsJsJsJsRJsJsuJs p0 p1 q2 q3 q4 cp (2 : Int32) sc ((sc.toInt64) * (1000 : Int64)) (((2 : Int64) * ((sc.toInt64) * (1000 : Int64))) + (1 : Int64)) t1 dd ee t2 b2 t2 (t2 + ee) t2) [(.int (0 : Int32))])) _
          refine XS.istore X146.here hx rfl (hb hby at_199) rfl (l' := (LS_IIJsJsJsIIIJsJsJsJsJsJsRJsJsIJs p0 p1 q2 q3 q4 cp (2 : Int32) sc ((sc.toInt64) * (1000 : Int64)) (((2 : Int64) * ((sc.toInt64) * (1000 : Int64))) + (1 : Int64)) t1 dd ee t2 b2 t2 (t2 + ee) (0 : Int32) t2)) rfl ?_
          refine XS.aload X146.here hx rfl (hb hby at_201) rfl rfl ?_
          refine XS.lload X146.here hx rfl (hb hby at_203) rfl ?_
          exact k
        have A2_v175 := A2_v127.keep K146
        have Fd38_v176 := Fd38_v128.keep K146 (ninS ne130 (ninS ne129 nin0))
        have Fm38_v177 := Fm38_v131.keep K146 (ninS ne130 (ninS ne129 nin0))
        have Ed38_v178 := Ed38_v132.keep K146
        have Ey125_v179 := Ey125.keep K146
        have ne181 : y125 ≠ ea38 := Exa.neArv Ey125_v179 Va146 (hw _ (List.mem_of_getElem? (i := 132) rfl))
        have ne182 : y125 ≠ da38 := Exa.ne Ey125 Ed38_v132 (by decide)
        have Fy125_v180 := Fy125.keep K146 (ninS ne182 (ninS ne181 nin0))
        have Z0_v183 := Nat.le_trans Z0_v133 K146.1
        obtain ⟨cq184, kq184, q184a, q184b, q184c⟩ := isOf hZ146 rfl A2_v175
        obtain ⟨_, _, ⟨T184, L184, k184, n184⟩, -, X184, ⟨Lc184, hQ184, l184, y184, z184⟩, st184⟩ := X146.virtualBack hx (y := (⟨"com/example/blend2/blend2/SlidingWindowLog", "isIdleAt", "(J)Z"⟩ : MethodName)) (z := (⟨"com/example/blend2/blend2/SlidingWindowLog", "isIdleAt", "(J)Z"⟩ : MethodName)) ho146 (mvT hZ146 (hw _ (List.mem_of_getElem? (i := 94) rfl))) (mvT hZ146 (hw _ (List.mem_of_getElem? (i := 95) rfl))) (notFace_of_selects (args := #[]) (mvT hZ146 (hw _ (List.mem_of_getElem? (i := 97) rfl)))) (mvT hZ146 (hw _ (List.mem_of_getElem? (i := 97) rfl))) (mvT hZ146 (hw _ (List.mem_of_getElem? (i := 96) rfl))) (by decide) (backOf (W := 0) (rmidl11_0_2 l Z a0 hw [] b2 (t2 + ee) da38 ea38 ka38 ((sc.toInt64) * (1000 : Int64)) y125 t1 y146 t2 T146.heap n0 Z0_v183 A2_v175 Fd38_v176 Fm38_v177 Ed38_v178 Fe146 Fh146 Ft146 Va146 Ov38 g_da38 g_ea38 Ey125_v179 Fy125_v180 Ey146 Fy146) hZ146 (hw _ (List.mem_of_getElem? (i := 98) rfl)) (hw _ (List.mem_of_getElem? (i := 10) rfl)) (by decide) (by decide)) q184a q184c (g := (mkF m 205 (LS_IIJsJsJsIIIJsJsJsJsJsJsRJsJsIJs p0 p1 q2 q3 q4 cp (2 : Int32) sc ((sc.toInt64) * (1000 : Int64)) (((2 : Int64) * ((sc.toInt64) * (1000 : Int64))) + (1 : Int64)) t1 dd ee t2 b2 t2 (t2 + ee) (0 : Int32) t2) [(.long (t2 + ee)), (.ref b2)])) rfl (by rw [hml]; rfl) (Steps.refl _) (argsL := [(.long (t2 + ee))]) (rest := []) (lenOf pd__J_Z rfl) rfl (by show 2 * 0 + _ ≤ _; exact Nat.le_of_eq rfl) (hb hby at_205) (fun _ _ => ⟨rfl, rfl, (by decide : 32 + 0 ≤ _), (by decide : 352 + 0 ≤ _)⟩)
        dsimp only [Pt.U, Pt.locs, Pt.cells, Pt.slots] at X184 l184 y184 z184 st184 hQ184
        subst l184 y184 z184
        obtain ⟨rfl, N184q, e184⟩ := hQ184
        have N184 := Fr.app N146 N184q
        refine own_go (B := T184.setTop (mkF m 208 (LS_IIJsJsJsIIIJsJsJsJsJsJsRJsJsIJs p0 p1 q2 q3 q4 cp (2 : Int32) sc ((sc.toInt64) * (1000 : Int64)) (((2 : Int64) * ((sc.toInt64) * (1000 : Int64))) + (1 : Int64)) t1 dd ee t2 b2 t2 (t2 + ee) (0 : Int32) t2) [(.int (if ((t2 + ee) - ((sc.toInt64) * (1000 : Int64))) < t2 then (0 : Int32) else (1 : Int32)))])) (fun t k => st184.trans k) ?_
        refine own_go (B := T184.setTop (mkF m 218 (LS_IIJsJsJsIIIJsJsJsJsJsJsRJsJsIJs p0 p1 q2 q3 q4 cp (2 : Int32) sc ((sc.toInt64) * (1000 : Int64)) (((2 : Int64) * ((sc.toInt64) * (1000 : Int64))) + (1 : Int64)) t1 dd ee t2 b2 t2 (t2 + ee) (0 : Int32) t2) [(.int (1 : Int32))])) (fun t k => ?_) ?_
        · refine XS.iload X184.here hx rfl (hb hby at_208) rfl ?_
          refine XS.icmpNo X184.here hx rfl (hb hby at_210) rfl (teq (if_pos hc191_174)).2 ?_
          show Steps p.tables e below (T184.setTop (mkF m 213 (LS_IIJsJsJsIIIJsJsJsJsJsJsRJsJsIJs p0 p1 q2 q3 q4 cp (2 : Int32) sc ((sc.toInt64) * (1000 : Int64)) (((2 : Int64) * ((sc.toInt64) * (1000 : Int64))) + (1 : Int64)) t1 dd ee t2 b2 t2 (t2 + ee) (0 : Int32) t2) [])) _
          refine XS.iconst X184.here hx rfl (hb hby at_213) ?_
          refine XS.goto X184.here hx rfl (pc0 := 214) (pc' := 218) rfl (hb hby at_214) (by decide) (by decide) ?_
          exact k
        obtain ⟨fs, hr, hrun, hended, hRW⟩ := Stand.leaveW (s := s) (vm₁ := T146.vm) X184 hS146 (by rw [e184]; exact hk146) (v := some (.int (1 : Int32))) (fun h => by rw [Bd.returns] at h; cases h) (BodyLoose.notSynchronized Bd)
        refine ⟨_, _, ?_, hrun, hended, _, _, rfl, ?_, hRW.1, hRW.2.1, hRW.2.2.1, hRW.2.2.2.mono (by decide) (by decide)⟩
        · show Steps p.tables e below (T184.setTop (mkF m 218 (LS_IIJsJsJsIIIJsJsJsJsJsJsRJsJsIJs p0 p1 q2 q3 q4 cp (2 : Int32) sc ((sc.toInt64) * (1000 : Int64)) (((2 : Int64) * ((sc.toInt64) * (1000 : Int64))) + (1 : Int64)) t1 dd ee t2 b2 t2 (t2 + ee) (0 : Int32) t2) [(.int (1 : Int32))])) _
          exact retN X184 hx (t := .boolean) Bd.returns (by simp) (hb hby at_218) hr
        · show Q0 Z p0 p1 q2 q3 q4 w_Algorithm_SLIDING_WINDOW_LOG w_StoreFailurePolicy_OPEN w_Duration_ZERO w_Long_LongCache_cache cc h0 n0 _ T184.heap _
          rw [e184]
          exact ⟨rfl, N184⟩
      · refine own_go (B := T146.setTop (mkF m 205 (LS_IIJsJsJsIIIJsJsJsJsJsJsRJsJsIJs p0 p1 q2 q3 q4 cp (2 : Int32) sc ((sc.toInt64) * (1000 : Int64)) (((2 : Int64) * ((sc.toInt64) * (1000 : Int64))) + (1 : Int64)) t1 dd ee t2 b2 t2 (t2 + ee) (1 : Int32) t2) [(.long (t2 + ee)), (.ref b2)])) (fun t k => ?_) ?_
        · refine XS.ifNo X146.here hx rfl (hb hby at_191) rfl ((if0 _ _).trans (flt (fun q => hc191_174 ((lw_gt t2 ((t2 + ee) - ((sc.toInt64) * (1000 : Int64)))).mp q))).2.2.1) ?_
          refine XS.iconst X146.here hx rfl (hb hby at_194) ?_
          show Steps p.tables e below (T146.setTop (mkF m 195 (LS_IIJsJsJsIIIJsJsJsJsJsJsRJsJsuJs p0 p1 q2 q3 q4 cp (2 : Int32) sc ((sc.toInt64) * (1000 : Int64)) (((2 : Int64) * ((sc.toInt64) * (1000 : Int64))) + (1 : Int64)) t1 dd ee t2 b2 t2 (t2 + ee) t2) [(.int (1 : Int32))])) _
          refine XS.goto X146.here hx rfl (pc0 := 195) (pc' := 199) rfl (hb hby at_195) (by decide) (by decide) ?_
          refine XS.istore X146.here hx rfl (hb hby at_199) rfl (l' := (LS_IIJsJsJsIIIJsJsJsJsJsJsRJsJsIJs p0 p1 q2 q3 q4 cp (2 : Int32) sc ((sc.toInt64) * (1000 : Int64)) (((2 : Int64) * ((sc.toInt64) * (1000 : Int64))) + (1 : Int64)) t1 dd ee t2 b2 t2 (t2 + ee) (1 : Int32) t2)) rfl ?_
          refine XS.aload X146.here hx rfl (hb hby at_201) rfl rfl ?_
          show Steps p.tables e below (T146.setTop (mkF m 203 (LS_IIJsJsJsIIIJsJsJsJsJsJsRJsJsIJs p0 p1 q2 q3 q4 cp (2 : Int32) sc ((sc.toInt64) * (1000 : Int64)) (((2 : Int64) * ((sc.toInt64) * (1000 : Int64))) + (1 : Int64)) t1 dd ee t2 b2 t2 (t2 + ee) (1 : Int32) t2) [(.ref b2)])) _
          refine XS.lload X146.here hx rfl (hb hby at_203) rfl ?_
          exact k
        have A2_v185 := A2_v127.keep K146
        have Fd38_v186 := Fd38_v128.keep K146 (ninS ne130 (ninS ne129 nin0))
        have Fm38_v187 := Fm38_v131.keep K146 (ninS ne130 (ninS ne129 nin0))
        have Ed38_v188 := Ed38_v132.keep K146
        have Ey125_v189 := Ey125.keep K146
        have ne191 : y125 ≠ ea38 := Exa.neArv Ey125_v189 Va146 (hw _ (List.mem_of_getElem? (i := 132) rfl))
        have ne192 : y125 ≠ da38 := Exa.ne Ey125 Ed38_v132 (by decide)
        have Fy125_v190 := Fy125.keep K146 (ninS ne192 (ninS ne191 nin0))
        have Z0_v193 := Nat.le_trans Z0_v133 K146.1
        obtain ⟨cq194, kq194, q194a, q194b, q194c⟩ := isOf hZ146 rfl A2_v185
        obtain ⟨_, _, ⟨T194, L194, k194, n194⟩, -, X194, ⟨Lc194, hQ194, l194, y194, z194⟩, st194⟩ := X146.virtualBack hx (y := (⟨"com/example/blend2/blend2/SlidingWindowLog", "isIdleAt", "(J)Z"⟩ : MethodName)) (z := (⟨"com/example/blend2/blend2/SlidingWindowLog", "isIdleAt", "(J)Z"⟩ : MethodName)) ho146 (mvT hZ146 (hw _ (List.mem_of_getElem? (i := 94) rfl))) (mvT hZ146 (hw _ (List.mem_of_getElem? (i := 95) rfl))) (notFace_of_selects (args := #[]) (mvT hZ146 (hw _ (List.mem_of_getElem? (i := 97) rfl)))) (mvT hZ146 (hw _ (List.mem_of_getElem? (i := 97) rfl))) (mvT hZ146 (hw _ (List.mem_of_getElem? (i := 96) rfl))) (by decide) (backOf (W := 0) (rmidl11_0_2 l Z a0 hw [] b2 (t2 + ee) da38 ea38 ka38 ((sc.toInt64) * (1000 : Int64)) y125 t1 y146 t2 T146.heap n0 Z0_v193 A2_v185 Fd38_v186 Fm38_v187 Ed38_v188 Fe146 Fh146 Ft146 Va146 Ov38 g_da38 g_ea38 Ey125_v189 Fy125_v190 Ey146 Fy146) hZ146 (hw _ (List.mem_of_getElem? (i := 98) rfl)) (hw _ (List.mem_of_getElem? (i := 10) rfl)) (by decide) (by decide)) q194a q194c (g := (mkF m 205 (LS_IIJsJsJsIIIJsJsJsJsJsJsRJsJsIJs p0 p1 q2 q3 q4 cp (2 : Int32) sc ((sc.toInt64) * (1000 : Int64)) (((2 : Int64) * ((sc.toInt64) * (1000 : Int64))) + (1 : Int64)) t1 dd ee t2 b2 t2 (t2 + ee) (1 : Int32) t2) [(.long (t2 + ee)), (.ref b2)])) rfl (by rw [hml]; rfl) (Steps.refl _) (argsL := [(.long (t2 + ee))]) (rest := []) (lenOf pd__J_Z rfl) rfl (by show 2 * 0 + _ ≤ _; exact Nat.le_of_eq rfl) (hb hby at_205) (fun _ _ => ⟨rfl, rfl, (by decide : 32 + 0 ≤ _), (by decide : 352 + 0 ≤ _)⟩)
        dsimp only [Pt.U, Pt.locs, Pt.cells, Pt.slots] at X194 l194 y194 z194 st194 hQ194
        subst l194 y194 z194
        obtain ⟨rfl, N194q, e194⟩ := hQ194
        have N194 := Fr.app N146 N194q
        refine own_go (B := T194.setTop (mkF m 208 (LS_IIJsJsJsIIIJsJsJsJsJsJsRJsJsIJs p0 p1 q2 q3 q4 cp (2 : Int32) sc ((sc.toInt64) * (1000 : Int64)) (((2 : Int64) * ((sc.toInt64) * (1000 : Int64))) + (1 : Int64)) t1 dd ee t2 b2 t2 (t2 + ee) (1 : Int32) t2) [(.int (if ((t2 + ee) - ((sc.toInt64) * (1000 : Int64))) < t2 then (0 : Int32) else (1 : Int32)))])) (fun t k => st194.trans k) ?_
        refine own_go (B := T194.setTop (mkF m 218 (LS_IIJsJsJsIIIJsJsJsJsJsJsRJsJsIJs p0 p1 q2 q3 q4 cp (2 : Int32) sc ((sc.toInt64) * (1000 : Int64)) (((2 : Int64) * ((sc.toInt64) * (1000 : Int64))) + (1 : Int64)) t1 dd ee t2 b2 t2 (t2 + ee) (1 : Int32) t2) [(.int (1 : Int32))])) (fun t k => ?_) ?_
        · refine XS.iload X194.here hx rfl (hb hby at_208) rfl ?_
          refine XS.icmpNo X194.here hx rfl (hb hby at_210) rfl (teq (if_neg hc191_174)).2 ?_
          show Steps p.tables e below (T194.setTop (mkF m 213 (LS_IIJsJsJsIIIJsJsJsJsJsJsRJsJsIJs p0 p1 q2 q3 q4 cp (2 : Int32) sc ((sc.toInt64) * (1000 : Int64)) (((2 : Int64) * ((sc.toInt64) * (1000 : Int64))) + (1 : Int64)) t1 dd ee t2 b2 t2 (t2 + ee) (1 : Int32) t2) [])) _
          refine XS.iconst X194.here hx rfl (hb hby at_213) ?_
          refine XS.goto X194.here hx rfl (pc0 := 214) (pc' := 218) rfl (hb hby at_214) (by decide) (by decide) ?_
          exact k
        obtain ⟨fs, hr, hrun, hended, hRW⟩ := Stand.leaveW (s := s) (vm₁ := T146.vm) X194 hS146 (by rw [e194]; exact hk146) (v := some (.int (1 : Int32))) (fun h => by rw [Bd.returns] at h; cases h) (BodyLoose.notSynchronized Bd)
        refine ⟨_, _, ?_, hrun, hended, _, _, rfl, ?_, hRW.1, hRW.2.1, hRW.2.2.1, hRW.2.2.2.mono (by decide) (by decide)⟩
        · show Steps p.tables e below (T194.setTop (mkF m 218 (LS_IIJsJsJsIIIJsJsJsJsJsJsRJsJsIJs p0 p1 q2 q3 q4 cp (2 : Int32) sc ((sc.toInt64) * (1000 : Int64)) (((2 : Int64) * ((sc.toInt64) * (1000 : Int64))) + (1 : Int64)) t1 dd ee t2 b2 t2 (t2 + ee) (1 : Int32) t2) [(.int (1 : Int32))])) _
          exact retN X194 hx (t := .boolean) Bd.returns (by simp) (hb hby at_218) hr
        · show Q0 Z p0 p1 q2 q3 q4 w_Algorithm_SLIDING_WINDOW_LOG w_StoreFailurePolicy_OPEN w_Duration_ZERO w_Long_LongCache_cache cc h0 n0 _ T194.heap _
          rw [e194]
          exact ⟨rfl, N194⟩
    · refine own_go (B := T146.setTop (mkF m 191 (LS_IIJsJsJsIIIJsJsJsJsJsJsRJsJsuJs p0 p1 q2 q3 q4 cp (2 : Int32) sc ((sc.toInt64) * (1000 : Int64)) (((2 : Int64) * ((sc.toInt64) * (1000 : Int64))) + (1 : Int64)) t1 dd ee t2 b2 t2 (t2 + ee) t1) [(.int (lcmpW t1 ((t2 + ee) - ((sc.toInt64) * (1000 : Int64)))))])) (fun t k => ?_) ?_
      · refine XS.pop X146.here hx rfl (hb hby at_132) rfl rfl ?_
        refine XS.lload X146.here hx rfl (hb hby at_133) rfl ?_
        show Steps p.tables e below (T146.setTop (mkF m 135 (LS_IIJsJsJsIIIJsJsJsJsJsJsRJsuuuuu p0 p1 q2 q3 q4 cp (2 : Int32) sc ((sc.toInt64) * (1000 : Int64)) (((2 : Int64) * ((sc.toInt64) * (1000 : Int64))) + (1 : Int64)) t1 dd ee t2 b2 t1) [(.long t2)])) _
        refine XS.lstore X146.here hx rfl (hb hby at_135) rfl (l' := (LS_IIJsJsJsIIIJsJsJsJsJsJsRJsuuuuu p0 p1 q2 q3 q4 cp (2 : Int32) sc ((sc.toInt64) * (1000 : Int64)) (((2 : Int64) * ((sc.toInt64) * (1000 : Int64))) + (1 : Int64)) t1 dd ee t2 b2 t2)) rfl ?_
        refine XS.lload X146.here hx rfl (hb hby at_137) rfl ?_
        refine XS.lload X146.here hx rfl (hb hby at_139) rfl ?_
        show Steps p.tables e below (T146.setTop (mkF m 141 (LS_IIJsJsJsIIIJsJsJsJsJsJsRJsuuuuu p0 p1 q2 q3 q4 cp (2 : Int32) sc ((sc.toInt64) * (1000 : Int64)) (((2 : Int64) * ((sc.toInt64) * (1000 : Int64))) + (1 : Int64)) t1 dd ee t2 b2 t2) [(.long ee), (.long t2)])) _
        refine XS.ladd X146.here hx rfl (hb hby at_141) rfl ?_
        refine XS.lstore X146.here hx rfl (hb hby at_142) rfl (l' := (LS_IIJsJsJsIIIJsJsJsJsJsJsRJsJsuuu p0 p1 q2 q3 q4 cp (2 : Int32) sc ((sc.toInt64) * (1000 : Int64)) (((2 : Int64) * ((sc.toInt64) * (1000 : Int64))) + (1 : Int64)) t1 dd ee t2 b2 t2 (t2 + ee))) rfl ?_
        refine XS.iload X146.here hx rfl (hb hby at_144) rfl ?_
        show Steps p.tables e below (T146.setTop (mkF m 146 (LS_IIJsJsJsIIIJsJsJsJsJsJsRJsJsuuu p0 p1 q2 q3 q4 cp (2 : Int32) sc ((sc.toInt64) * (1000 : Int64)) (((2 : Int64) * ((sc.toInt64) * (1000 : Int64))) + (1 : Int64)) t1 dd ee t2 b2 t2 (t2 + ee)) [(.int (2 : Int32))])) _
        refine XS.ifYes X146.here hx rfl (pc0 := 146) (pc' := 155) rfl (hb hby at_146) rfl ((if0 _ _).trans (feq (by decide : ¬ ((2 : Int32) = (0 : Int32)))).2) (by decide) (by decide) ?_
        refine XS.lload X146.here hx rfl (hb hby at_155) rfl ?_
        refine XS.lstore X146.here hx rfl (hb hby at_157) rfl (l' := (LS_IIJsJsJsIIIJsJsJsJsJsJsRJsJsuJs p0 p1 q2 q3 q4 cp (2 : Int32) sc ((sc.toInt64) * (1000 : Int64)) (((2 : Int64) * ((sc.toInt64) * (1000 : Int64))) + (1 : Int64)) t1 dd ee t2 b2 t2 (t2 + ee) t1)) rfl ?_
        show Steps p.tables e below (T146.setTop (mkF m 159 (LS_IIJsJsJsIIIJsJsJsJsJsJsRJsJsuJs p0 p1 q2 q3 q4 cp (2 : Int32) sc ((sc.toInt64) * (1000 : Int64)) (((2 : Int64) * ((sc.toInt64) * (1000 : Int64))) + (1 : Int64)) t1 dd ee t2 b2 t2 (t2 + ee) t1) [])) _
        refine XS.iload X146.here hx rfl (hb hby at_159) rfl ?_
        refine XS.iconst X146.here hx rfl (hb hby at_161) ?_
        refine XS.icmpNo X146.here hx rfl (hb hby at_162) rfl (teq (by decide : (2 : Int32) = (2 : Int32))).2 ?_
        show Steps p.tables e below (T146.setTop (mkF m 165 (LS_IIJsJsJsIIIJsJsJsJsJsJsRJsJsuJs p0 p1 q2 q3 q4 cp (2 : Int32) sc ((sc.toInt64) * (1000 : Int64)) (((2 : Int64) * ((sc.toInt64) * (1000 : Int64))) + (1 : Int64)) t1 dd ee t2 b2 t2 (t2 + ee) t1) [])) _
        refine XS.iload X146.here hx rfl (hb hby at_165) rfl ?_
        refine XS.iconst X146.here hx rfl (hb hby at_167) ?_
        refine XS.icmpNo X146.here hx rfl (hb hby at_168) rfl (feq (fun z => h1c146 (htwo.mpr z))).1 ?_
        show Steps p.tables e below (T146.setTop (mkF m 171 (LS_IIJsJsJsIIIJsJsJsJsJsJsRJsJsuJs p0 p1 q2 q3 q4 cp (2 : Int32) sc ((sc.toInt64) * (1000 : Int64)) (((2 : Int64) * ((sc.toInt64) * (1000 : Int64))) + (1 : Int64)) t1 dd ee t2 b2 t2 (t2 + ee) t1) [])) _
        refine XS.lload X146.here hx rfl (hb hby at_171) rfl ?_
        refine XS.lload X146.here hx rfl (hb hby at_173) rfl ?_
        refine XS.lcmp X146.here hx rfl (hb hby at_175) rfl ?_
        show Steps p.tables e below (T146.setTop (mkF m 176 (LS_IIJsJsJsIIIJsJsJsJsJsJsRJsJsuJs p0 p1 q2 q3 q4 cp (2 : Int32) sc ((sc.toInt64) * (1000 : Int64)) (((2 : Int64) * ((sc.toInt64) * (1000 : Int64))) + (1 : Int64)) t1 dd ee t2 b2 t2 (t2 + ee) t1) [(.int (lcmpW dd ((sc.toInt64) * (1000 : Int64))))])) _
        refine XS.ifYes X146.here hx rfl (pc0 := 176) (pc' := 183) rfl (hb hby at_176) rfl ((if0 _ _).trans (tlt ((lw_lt dd ((sc.toInt64) * (1000 : Int64))).mpr (hdw.mp hlt146))).1) (by decide) (by decide) ?_
        refine XS.lload X146.here hx rfl (hb hby at_183) rfl ?_
        refine XS.lload X146.here hx rfl (hb hby at_185) rfl ?_
        show Steps p.tables e below (T146.setTop (mkF m 187 (LS_IIJsJsJsIIIJsJsJsJsJsJsRJsJsuJs p0 p1 q2 q3 q4 cp (2 : Int32) sc ((sc.toInt64) * (1000 : Int64)) (((2 : Int64) * ((sc.toInt64) * (1000 : Int64))) + (1 : Int64)) t1 dd ee t2 b2 t2 (t2 + ee) t1) [(.long (t2 + ee)), (.long t1)])) _
        refine XS.lload X146.here hx rfl (hb hby at_187) rfl ?_
        refine XS.lsub X146.here hx rfl (hb hby at_189) rfl ?_
        refine XS.lcmp X146.here hx rfl (hb hby at_190) rfl ?_
        exact k
      by_cases hc191_195 : ((t2 + ee) - ((sc.toInt64) * (1000 : Int64))) < t1
      · refine own_go (B := T146.setTop (mkF m 205 (LS_IIJsJsJsIIIJsJsJsJsJsJsRJsJsIJs p0 p1 q2 q3 q4 cp (2 : Int32) sc ((sc.toInt64) * (1000 : Int64)) (((2 : Int64) * ((sc.toInt64) * (1000 : Int64))) + (1 : Int64)) t1 dd ee t2 b2 t2 (t2 + ee) (0 : Int32) t1) [(.long (t2 + ee)), (.ref b2)])) (fun t k => ?_) ?_
        · refine XS.ifYes X146.here hx rfl (pc0 := 191) (pc' := 198) rfl (hb hby at_191) rfl ((if0 _ _).trans (tlt ((lw_gt t1 ((t2 + ee) - ((sc.toInt64) * (1000 : Int64)))).mpr hc191_195)).2.2.1) (by decide) (by decide) ?_
          refine XS.iconst X146.here hx rfl (hb hby at_198) ?_
          show Steps p.tables e below (T146.setTop (mkF m 199 (LS_IIJsJsJsIIIJsJsJsJsJsJsRJsJsuJs p0 p1 q2 q3 q4 cp (2 : Int32) sc ((sc.toInt64) * (1000 : Int64)) (((2 : Int64) * ((sc.toInt64) * (1000 : Int64))) + (1 : Int64)) t1 dd ee t2 b2 t2 (t2 + ee) t1) [(.int (0 : Int32))])) _
          refine XS.istore X146.here hx rfl (hb hby at_199) rfl (l' := (LS_IIJsJsJsIIIJsJsJsJsJsJsRJsJsIJs p0 p1 q2 q3 q4 cp (2 : Int32) sc ((sc.toInt64) * (1000 : Int64)) (((2 : Int64) * ((sc.toInt64) * (1000 : Int64))) + (1 : Int64)) t1 dd ee t2 b2 t2 (t2 + ee) (0 : Int32) t1)) rfl ?_
          refine XS.aload X146.here hx rfl (hb hby at_201) rfl rfl ?_
          refine XS.lload X146.here hx rfl (hb hby at_203) rfl ?_
          exact k
        have A2_v196 := A2_v127.keep K146
        have Fd38_v197 := Fd38_v128.keep K146 (ninS ne130 (ninS ne129 nin0))
        have Fm38_v198 := Fm38_v131.keep K146 (ninS ne130 (ninS ne129 nin0))
        have Ed38_v199 := Ed38_v132.keep K146
        have Ey125_v200 := Ey125.keep K146
        have ne202 : y125 ≠ ea38 := Exa.neArv Ey125_v200 Va146 (hw _ (List.mem_of_getElem? (i := 132) rfl))
        have ne203 : y125 ≠ da38 := Exa.ne Ey125 Ed38_v132 (by decide)
        have Fy125_v201 := Fy125.keep K146 (ninS ne203 (ninS ne202 nin0))
        have Z0_v204 := Nat.le_trans Z0_v133 K146.1
        obtain ⟨cq205, kq205, q205a, q205b, q205c⟩ := isOf hZ146 rfl A2_v196
        obtain ⟨_, _, ⟨T205, L205, k205, n205⟩, -, X205, ⟨Lc205, hQ205, l205, y205, z205⟩, st205⟩ := X146.virtualBack hx (y := (⟨"com/example/blend2/blend2/SlidingWindowLog", "isIdleAt", "(J)Z"⟩ : MethodName)) (z := (⟨"com/example/blend2/blend2/SlidingWindowLog", "isIdleAt", "(J)Z"⟩ : MethodName)) ho146 (mvT hZ146 (hw _ (List.mem_of_getElem? (i := 94) rfl))) (mvT hZ146 (hw _ (List.mem_of_getElem? (i := 95) rfl))) (notFace_of_selects (args := #[]) (mvT hZ146 (hw _ (List.mem_of_getElem? (i := 97) rfl)))) (mvT hZ146 (hw _ (List.mem_of_getElem? (i := 97) rfl))) (mvT hZ146 (hw _ (List.mem_of_getElem? (i := 96) rfl))) (by decide) (backOf (W := 0) (rmidl10_0_1 l Z a0 hw [] b2 (t2 + ee) da38 ea38 ka38 ((sc.toInt64) * (1000 : Int64)) y125 t1 T146.heap n0 Z0_v204 A2_v196 Fd38_v197 Fm38_v198 Ed38_v199 Fe146 Fh146 Ft146 Va146 Ov38 g_da38 g_ea38 Ey125_v200 Fy125_v201) hZ146 (hw _ (List.mem_of_getElem? (i := 98) rfl)) (hw _ (List.mem_of_getElem? (i := 10) rfl)) (by decide) (by decide)) q205a q205c (g := (mkF m 205 (LS_IIJsJsJsIIIJsJsJsJsJsJsRJsJsIJs p0 p1 q2 q3 q4 cp (2 : Int32) sc ((sc.toInt64) * (1000 : Int64)) (((2 : Int64) * ((sc.toInt64) * (1000 : Int64))) + (1 : Int64)) t1 dd ee t2 b2 t2 (t2 + ee) (0 : Int32) t1) [(.long (t2 + ee)), (.ref b2)])) rfl (by rw [hml]; rfl) (Steps.refl _) (argsL := [(.long (t2 + ee))]) (rest := []) (lenOf pd__J_Z rfl) rfl (by show 2 * 0 + _ ≤ _; exact Nat.le_of_eq rfl) (hb hby at_205) (fun _ _ => ⟨rfl, rfl, (by decide : 32 + 0 ≤ _), (by decide : 352 + 0 ≤ _)⟩)
        dsimp only [Pt.U, Pt.locs, Pt.cells, Pt.slots] at X205 l205 y205 z205 st205 hQ205
        subst l205 y205 z205
        obtain ⟨rfl, N205q, e205⟩ := hQ205
        have N205 := Fr.app N146 N205q
        refine own_go (B := T205.setTop (mkF m 208 (LS_IIJsJsJsIIIJsJsJsJsJsJsRJsJsIJs p0 p1 q2 q3 q4 cp (2 : Int32) sc ((sc.toInt64) * (1000 : Int64)) (((2 : Int64) * ((sc.toInt64) * (1000 : Int64))) + (1 : Int64)) t1 dd ee t2 b2 t2 (t2 + ee) (0 : Int32) t1) [(.int (if ((t2 + ee) - ((sc.toInt64) * (1000 : Int64))) < t1 then (0 : Int32) else (1 : Int32)))])) (fun t k => st205.trans k) ?_
        refine own_go (B := T205.setTop (mkF m 218 (LS_IIJsJsJsIIIJsJsJsJsJsJsRJsJsIJs p0 p1 q2 q3 q4 cp (2 : Int32) sc ((sc.toInt64) * (1000 : Int64)) (((2 : Int64) * ((sc.toInt64) * (1000 : Int64))) + (1 : Int64)) t1 dd ee t2 b2 t2 (t2 + ee) (0 : Int32) t1) [(.int (1 : Int32))])) (fun t k => ?_) ?_
        · refine XS.iload X205.here hx rfl (hb hby at_208) rfl ?_
          refine XS.icmpNo X205.here hx rfl (hb hby at_210) rfl (teq (if_pos hc191_195)).2 ?_
          show Steps p.tables e below (T205.setTop (mkF m 213 (LS_IIJsJsJsIIIJsJsJsJsJsJsRJsJsIJs p0 p1 q2 q3 q4 cp (2 : Int32) sc ((sc.toInt64) * (1000 : Int64)) (((2 : Int64) * ((sc.toInt64) * (1000 : Int64))) + (1 : Int64)) t1 dd ee t2 b2 t2 (t2 + ee) (0 : Int32) t1) [])) _
          refine XS.iconst X205.here hx rfl (hb hby at_213) ?_
          refine XS.goto X205.here hx rfl (pc0 := 214) (pc' := 218) rfl (hb hby at_214) (by decide) (by decide) ?_
          exact k
        obtain ⟨fs, hr, hrun, hended, hRW⟩ := Stand.leaveW (s := s) (vm₁ := T146.vm) X205 hS146 (by rw [e205]; exact hk146) (v := some (.int (1 : Int32))) (fun h => by rw [Bd.returns] at h; cases h) (BodyLoose.notSynchronized Bd)
        refine ⟨_, _, ?_, hrun, hended, _, _, rfl, ?_, hRW.1, hRW.2.1, hRW.2.2.1, hRW.2.2.2.mono (by decide) (by decide)⟩
        · show Steps p.tables e below (T205.setTop (mkF m 218 (LS_IIJsJsJsIIIJsJsJsJsJsJsRJsJsIJs p0 p1 q2 q3 q4 cp (2 : Int32) sc ((sc.toInt64) * (1000 : Int64)) (((2 : Int64) * ((sc.toInt64) * (1000 : Int64))) + (1 : Int64)) t1 dd ee t2 b2 t2 (t2 + ee) (0 : Int32) t1) [(.int (1 : Int32))])) _
          exact retN X205 hx (t := .boolean) Bd.returns (by simp) (hb hby at_218) hr
        · show Q0 Z p0 p1 q2 q3 q4 w_Algorithm_SLIDING_WINDOW_LOG w_StoreFailurePolicy_OPEN w_Duration_ZERO w_Long_LongCache_cache cc h0 n0 _ T205.heap _
          rw [e205]
          exact ⟨rfl, N205⟩
      · refine own_go (B := T146.setTop (mkF m 205 (LS_IIJsJsJsIIIJsJsJsJsJsJsRJsJsIJs p0 p1 q2 q3 q4 cp (2 : Int32) sc ((sc.toInt64) * (1000 : Int64)) (((2 : Int64) * ((sc.toInt64) * (1000 : Int64))) + (1 : Int64)) t1 dd ee t2 b2 t2 (t2 + ee) (1 : Int32) t1) [(.long (t2 + ee)), (.ref b2)])) (fun t k => ?_) ?_
        · refine XS.ifNo X146.here hx rfl (hb hby at_191) rfl ((if0 _ _).trans (flt (fun q => hc191_195 ((lw_gt t1 ((t2 + ee) - ((sc.toInt64) * (1000 : Int64)))).mp q))).2.2.1) ?_
          refine XS.iconst X146.here hx rfl (hb hby at_194) ?_
          show Steps p.tables e below (T146.setTop (mkF m 195 (LS_IIJsJsJsIIIJsJsJsJsJsJsRJsJsuJs p0 p1 q2 q3 q4 cp (2 : Int32) sc ((sc.toInt64) * (1000 : Int64)) (((2 : Int64) * ((sc.toInt64) * (1000 : Int64))) + (1 : Int64)) t1 dd ee t2 b2 t2 (t2 + ee) t1) [(.int (1 : Int32))])) _
          refine XS.goto X146.here hx rfl (pc0 := 195) (pc' := 199) rfl (hb hby at_195) (by decide) (by decide) ?_
          refine XS.istore X146.here hx rfl (hb hby at_199) rfl (l' := (LS_IIJsJsJsIIIJsJsJsJsJsJsRJsJsIJs p0 p1 q2 q3 q4 cp (2 : Int32) sc ((sc.toInt64) * (1000 : Int64)) (((2 : Int64) * ((sc.toInt64) * (1000 : Int64))) + (1 : Int64)) t1 dd ee t2 b2 t2 (t2 + ee) (1 : Int32) t1)) rfl ?_
          refine XS.aload X146.here hx rfl (hb hby at_201) rfl rfl ?_
          show Steps p.tables e below (T146.setTop (mkF m 203 (LS_IIJsJsJsIIIJsJsJsJsJsJsRJsJsIJs p0 p1 q2 q3 q4 cp (2 : Int32) sc ((sc.toInt64) * (1000 : Int64)) (((2 : Int64) * ((sc.toInt64) * (1000 : Int64))) + (1 : Int64)) t1 dd ee t2 b2 t2 (t2 + ee) (1 : Int32) t1) [(.ref b2)])) _
          refine XS.lload X146.here hx rfl (hb hby at_203) rfl ?_
          exact k
        have A2_v206 := A2_v127.keep K146
        have Fd38_v207 := Fd38_v128.keep K146 (ninS ne130 (ninS ne129 nin0))
        have Fm38_v208 := Fm38_v131.keep K146 (ninS ne130 (ninS ne129 nin0))
        have Ed38_v209 := Ed38_v132.keep K146
        have Ey125_v210 := Ey125.keep K146
        have ne212 : y125 ≠ ea38 := Exa.neArv Ey125_v210 Va146 (hw _ (List.mem_of_getElem? (i := 132) rfl))
        have ne213 : y125 ≠ da38 := Exa.ne Ey125 Ed38_v132 (by decide)
        have Fy125_v211 := Fy125.keep K146 (ninS ne213 (ninS ne212 nin0))
        have Z0_v214 := Nat.le_trans Z0_v133 K146.1
        obtain ⟨cq215, kq215, q215a, q215b, q215c⟩ := isOf hZ146 rfl A2_v206
        obtain ⟨_, _, ⟨T215, L215, k215, n215⟩, -, X215, ⟨Lc215, hQ215, l215, y215, z215⟩, st215⟩ := X146.virtualBack hx (y := (⟨"com/example/blend2/blend2/SlidingWindowLog", "isIdleAt", "(J)Z"⟩ : MethodName)) (z := (⟨"com/example/blend2/blend2/SlidingWindowLog", "isIdleAt", "(J)Z"⟩ : MethodName)) ho146 (mvT hZ146 (hw _ (List.mem_of_getElem? (i := 94) rfl))) (mvT hZ146 (hw _ (List.mem_of_getElem? (i := 95) rfl))) (notFace_of_selects (args := #[]) (mvT hZ146 (hw _ (List.mem_of_getElem? (i := 97) rfl)))) (mvT hZ146 (hw _ (List.mem_of_getElem? (i := 97) rfl))) (mvT hZ146 (hw _ (List.mem_of_getElem? (i := 96) rfl))) (by decide) (backOf (W := 0) (rmidl10_0_1 l Z a0 hw [] b2 (t2 + ee) da38 ea38 ka38 ((sc.toInt64) * (1000 : Int64)) y125 t1 T146.heap n0 Z0_v214 A2_v206 Fd38_v207 Fm38_v208 Ed38_v209 Fe146 Fh146 Ft146 Va146 Ov38 g_da38 g_ea38 Ey125_v210 Fy125_v211) hZ146 (hw _ (List.mem_of_getElem? (i := 98) rfl)) (hw _ (List.mem_of_getElem? (i := 10) rfl)) (by decide) (by decide)) q215a q215c (g := (mkF m 205 (LS_IIJsJsJsIIIJsJsJsJsJsJsRJsJsIJs p0 p1 q2 q3 q4 cp (2 : Int32) sc ((sc.toInt64) * (1000 : Int64)) (((2 : Int64) * ((sc.toInt64) * (1000 : Int64))) + (1 : Int64)) t1 dd ee t2 b2 t2 (t2 + ee) (1 : Int32) t1) [(.long (t2 + ee)), (.ref b2)])) rfl (by rw [hml]; rfl) (Steps.refl _) (argsL := [(.long (t2 + ee))]) (rest := []) (lenOf pd__J_Z rfl) rfl (by show 2 * 0 + _ ≤ _; exact Nat.le_of_eq rfl) (hb hby at_205) (fun _ _ => ⟨rfl, rfl, (by decide : 32 + 0 ≤ _), (by decide : 352 + 0 ≤ _)⟩)
        dsimp only [Pt.U, Pt.locs, Pt.cells, Pt.slots] at X215 l215 y215 z215 st215 hQ215
        subst l215 y215 z215
        obtain ⟨rfl, N215q, e215⟩ := hQ215
        have N215 := Fr.app N146 N215q
        refine own_go (B := T215.setTop (mkF m 208 (LS_IIJsJsJsIIIJsJsJsJsJsJsRJsJsIJs p0 p1 q2 q3 q4 cp (2 : Int32) sc ((sc.toInt64) * (1000 : Int64)) (((2 : Int64) * ((sc.toInt64) * (1000 : Int64))) + (1 : Int64)) t1 dd ee t2 b2 t2 (t2 + ee) (1 : Int32) t1) [(.int (if ((t2 + ee) - ((sc.toInt64) * (1000 : Int64))) < t1 then (0 : Int32) else (1 : Int32)))])) (fun t k => st215.trans k) ?_
        refine own_go (B := T215.setTop (mkF m 218 (LS_IIJsJsJsIIIJsJsJsJsJsJsRJsJsIJs p0 p1 q2 q3 q4 cp (2 : Int32) sc ((sc.toInt64) * (1000 : Int64)) (((2 : Int64) * ((sc.toInt64) * (1000 : Int64))) + (1 : Int64)) t1 dd ee t2 b2 t2 (t2 + ee) (1 : Int32) t1) [(.int (1 : Int32))])) (fun t k => ?_) ?_
        · refine XS.iload X215.here hx rfl (hb hby at_208) rfl ?_
          refine XS.icmpNo X215.here hx rfl (hb hby at_210) rfl (teq (if_neg hc191_195)).2 ?_
          show Steps p.tables e below (T215.setTop (mkF m 213 (LS_IIJsJsJsIIIJsJsJsJsJsJsRJsJsIJs p0 p1 q2 q3 q4 cp (2 : Int32) sc ((sc.toInt64) * (1000 : Int64)) (((2 : Int64) * ((sc.toInt64) * (1000 : Int64))) + (1 : Int64)) t1 dd ee t2 b2 t2 (t2 + ee) (1 : Int32) t1) [])) _
          refine XS.iconst X215.here hx rfl (hb hby at_213) ?_
          refine XS.goto X215.here hx rfl (pc0 := 214) (pc' := 218) rfl (hb hby at_214) (by decide) (by decide) ?_
          exact k
        obtain ⟨fs, hr, hrun, hended, hRW⟩ := Stand.leaveW (s := s) (vm₁ := T146.vm) X215 hS146 (by rw [e215]; exact hk146) (v := some (.int (1 : Int32))) (fun h => by rw [Bd.returns] at h; cases h) (BodyLoose.notSynchronized Bd)
        refine ⟨_, _, ?_, hrun, hended, _, _, rfl, ?_, hRW.1, hRW.2.1, hRW.2.2.1, hRW.2.2.2.mono (by decide) (by decide)⟩
        · show Steps p.tables e below (T215.setTop (mkF m 218 (LS_IIJsJsJsIIIJsJsJsJsJsJsRJsJsIJs p0 p1 q2 q3 q4 cp (2 : Int32) sc ((sc.toInt64) * (1000 : Int64)) (((2 : Int64) * ((sc.toInt64) * (1000 : Int64))) + (1 : Int64)) t1 dd ee t2 b2 t2 (t2 + ee) (1 : Int32) t1) [(.int (1 : Int32))])) _
          exact retN X215 hx (t := .boolean) Bd.returns (by simp) (hb hby at_218) hr
        · show Q0 Z p0 p1 q2 q3 q4 w_Algorithm_SLIDING_WINDOW_LOG w_StoreFailurePolicy_OPEN w_Duration_ZERO w_Long_LongCache_cache cc h0 n0 _ T215.heap _
          rw [e215]
          exact ⟨rfl, N215⟩
set_option maxRecDepth 65536 in
set_option maxHeartbeats 40000000 in
theorem comes_1 {Post : Tables → Env → Array Value → State → Outcome → State → Prop} (hpost : ∀ tb e args s v u, (limb_1_1.after args s (.returned v) u = true ∧ limb_1_2.after args s (.returned v) u = true ∧ True) → FramedW s (.returned v) u (Jvm.fieldLocs frame_1_writes args s ++ Jvm.arrayLocs frame_1_arrays args s ++ Jvm.staticLocs frame_1_statics s) 48 7360 → Post tb e args s (.returned v) u) :
    ArmFor flags0 classFile x code maxLocals ret World_1 tables_1 room_1 Calls_1 rest_1 Pre_1 Post := by
  intro l hfl _ _ p e ha hc hk s m args below hf hA hF happ hP
  obtain ⟨hcalls, hrest, hpre⟩ := hP
  obtain ⟨-, -, -, hnamed, -, -, -, hat⟩ := (Spec.applies_iff hf).mp happ
  obtain ⟨hg, hn⟩ := and_e (Cond.before_iff.mp (show (Jvm.Cond.and given_1 narrow_1).before args s = true from hpre))
  obtain ⟨g1, g2⟩ := and_e hg
  obtain ⟨g3, g4⟩ := and_e g2
  obtain ⟨g5, g6⟩ := and_e g4
  obtain ⟨g7, g8⟩ := and_e g6
  obtain ⟨g9, g10⟩ := and_e g8
  obtain ⟨w0, w1, w2, w3, w4, rfl⟩ : ∃ w0 w1 w2 w3 w4 : Value, args = #[w0, w1, w2, w3, w4] := by
    have hs : args.size = 5 := by simpa [Cond.value, given_1] using g1
    obtain ⟨L⟩ := args
    match L, hs with
    | [w0, w1, w2, w3, w4], _ => exact ⟨w0, w1, w2, w3, w4, rfl⟩
  have hw := fun d (hd : d ∈ tables_1) => atoms_spec (ws := Jvm.Cond.code x code maxLocals ret :: tables_1) hat d (List.mem_cons_of_mem _ hd)
  have hfit : Fit s := fun {y c} hc i hi => by
    obtain ⟨ha, rfl⟩ := Array.getElem?_eq_some_iff.mp hc
    have q := List.all_eq_true.mp ((Array.all_eq_true_iff_forall_mem.mp hF) _ (Array.getElem_mem ha)) i (List.mem_range.mpr hi)
    simpa [Array.getElem?_eq_getElem hi] using q
  obtain ⟨hsets, hown0⟩ := atoms_of _ (rest_1_c_eq ▸ (show rest_1_c.before _ s = true from hrest))
  have hr0 := Cond.before_iff.mp hown0
  obtain ⟨i0, ei0⟩ := is_v g3
  obtain rfl : w0 = (.int i0) := Option.some.inj ei0
  obtain ⟨i1, ei1⟩ := is_v g5
  obtain rfl : w1 = (.int i1) := Option.some.inj ei1
  obtain ⟨i2, ei2⟩ := isL_v g7
  obtain rfl : w2 = (.long i2) := Option.some.inj ei2
  obtain ⟨i3, ei3⟩ := isL_v g9
  obtain rfl : w3 = (.long i3) := Option.some.inj ei3
  obtain ⟨i4, ei4⟩ := isL_v g10
  obtain rfl : w4 = (.long i4) := Option.some.inj ei4
  obtain ⟨g11, g12⟩ := and_e hn
  obtain ⟨w_Algorithm_SLIDING_WINDOW_LOG, ev_Algorithm_SLIDING_WINDOW_LOG⟩ := exa_v g11
  have S_Algorithm_SLIDING_WINDOW_LOG : Sta s s.heap "com/example/blend2/blend2/Algorithm" "SLIDING_WINDOW_LOG" "Lcom/example/blend2/blend2/Algorithm;" (.ref w_Algorithm_SLIDING_WINDOW_LOG) := Sta.start ev_Algorithm_SLIDING_WINDOW_LOG (Or.inr ⟨(hw _ (List.mem_of_getElem? (i := 27) rfl)), (hw _ (List.mem_of_getElem? (i := 28) rfl))⟩)
  have E_Algorithm_SLIDING_WINDOW_LOG : Exa s s.heap w_Algorithm_SLIDING_WINDOW_LOG "com/example/blend2/blend2/Algorithm" := Exa.start ev_Algorithm_SLIDING_WINDOW_LOG g11
  obtain ⟨g13, g14⟩ := and_e g12
  have ev_Rule_DEFAULT_ALGORITHM := own_eqR g13 ev_Algorithm_SLIDING_WINDOW_LOG
  have S_Rule_DEFAULT_ALGORITHM : Sta s s.heap "com/example/blend2/blend2/Rule" "DEFAULT_ALGORITHM" "Lcom/example/blend2/blend2/Algorithm;" (.ref w_Algorithm_SLIDING_WINDOW_LOG) := Sta.start ev_Rule_DEFAULT_ALGORITHM (Or.inr ⟨(hw _ (List.mem_of_getElem? (i := 13) rfl)), (hw _ (List.mem_of_getElem? (i := 26) rfl))⟩)
  obtain ⟨g15, g16⟩ := and_e g14
  obtain ⟨w_StoreFailurePolicy_OPEN, ev_StoreFailurePolicy_OPEN⟩ := exa_v g15
  have S_StoreFailurePolicy_OPEN : Sta s s.heap "com/example/blend2/blend2/StoreFailurePolicy" "OPEN" "Lcom/example/blend2/blend2/StoreFailurePolicy;" (.ref w_StoreFailurePolicy_OPEN) := Sta.start ev_StoreFailurePolicy_OPEN (Or.inr ⟨(hw _ (List.mem_of_getElem? (i := 31) rfl)), (hw _ (List.mem_of_getElem? (i := 32) rfl))⟩)
  have E_StoreFailurePolicy_OPEN : Exa s s.heap w_StoreFailurePolicy_OPEN "com/example/blend2/blend2/StoreFailurePolicy" := Exa.start ev_StoreFailurePolicy_OPEN g15
  have ev_Rule_DEFAULT_STORE_FAILURE_POLICY := own_eqR g16 ev_StoreFailurePolicy_OPEN
  have S_Rule_DEFAULT_STORE_FAILURE_POLICY : Sta s s.heap "com/example/blend2/blend2/Rule" "DEFAULT_STORE_FAILURE_POLICY" "Lcom/example/blend2/blend2/StoreFailurePolicy;" (.ref w_StoreFailurePolicy_OPEN) := Sta.start ev_Rule_DEFAULT_STORE_FAILURE_POLICY (Or.inr ⟨(hw _ (List.mem_of_getElem? (i := 13) rfl)), (hw _ (List.mem_of_getElem? (i := 30) rfl))⟩)
  obtain ⟨w_Duration_ZERO, ev_Duration_ZERO⟩ := exa_v (Cond.before_iff.mp (hsets _ (List.mem_of_getElem? (i := 2) rfl)))
  have S_Duration_ZERO : Sta s s.heap "java/time/Duration" "ZERO" "Ljava/time/Duration;" (.ref w_Duration_ZERO) := Sta.start ev_Duration_ZERO (Or.inl (hsets _ (List.mem_of_getElem? (i := 1) rfl)))
  have E_Duration_ZERO : Exa s s.heap w_Duration_ZERO "java/time/Duration" := Exa.start ev_Duration_ZERO (Cond.before_iff.mp (hsets _ (List.mem_of_getElem? (i := 2) rfl)))
  have F_Duration_ZERO_seconds : Fld s s.heap w_Duration_ZERO "java/time/Duration" "seconds" "J" (.long (0 : Int64)) := Fld.start ((fld_at ev_Duration_ZERO).symm.trans (own_eqJ (Cond.before_iff.mp (hsets _ (List.mem_of_getElem? (i := 3) rfl)))))
  have F_Duration_ZERO_nanos : Fld s s.heap w_Duration_ZERO "java/time/Duration" "nanos" "I" (.int (0 : Int32)) := Fld.start ((fld_at ev_Duration_ZERO).symm.trans (own_eqI (Cond.before_iff.mp (hsets _ (List.mem_of_getElem? (i := 4) rfl)))))
  obtain ⟨w_Long_LongCache_cache, ev_Long_LongCache_cache⟩ := exa_v (Cond.before_iff.mp (hsets _ (List.mem_of_getElem? (i := 8) rfl)))
  have S_Long_LongCache_cache : Sta s s.heap "java/lang/Long$LongCache" "cache" "[Ljava/lang/Long;" (.ref w_Long_LongCache_cache) := Sta.start ev_Long_LongCache_cache (Or.inl (hsets _ (List.mem_of_getElem? (i := 6) rfl)))
  have E_Long_LongCache_cache : Exa s s.heap w_Long_LongCache_cache "[Ljava/lang/Long;" := Exa.start ev_Long_LongCache_cache (Cond.before_iff.mp (hsets _ (List.mem_of_getElem? (i := 8) rfl)))
  obtain ⟨cc, Acc⟩ := Arr.start ev_Long_LongCache_cache (Cond.before_iff.mp (hsets _ (List.mem_of_getElem? (i := 7) rfl)))
  obtain ⟨lq, le⟩ := own_len ev_Long_LongCache_cache (Acc.fin (Vm.Alike.refl _)) (own_eqI (Cond.before_iff.mp (hsets _ (List.mem_of_getElem? (i := 9) rfl))))
  have BX : Bxs s w_Long_LongCache_cache cc "java/lang/Long" "J" (256 : Int32) (fun j : Int32 => Value.long ((j - (128 : Int32)).toInt64)) := Bxs.start (fun _ => ev_Long_LongCache_cache) Acc lq le (by decide) (Cond.before_iff.mp (hsets _ (List.mem_of_getElem? (i := 10) rfl))) (fun X j hj h => eqv_l (i2l_at (Term.sub_int (idx_at hj) (Term.int_eval _))) h)
  have OL := Old.start s
  obtain ⟨n, o, h1, h2, h3, _, L, rfl, ⟨rfl, N⟩, hq⟩ := rm0 l s _ hw tables_1 i0 i1 i2 i3 i4 w_Algorithm_SLIDING_WINDOW_LOG w_StoreFailurePolicy_OPEN w_Duration_ZERO w_Long_LongCache_cache cc s.heap s.heap.size (Nat.le_refl _) S_Algorithm_SLIDING_WINDOW_LOG E_Algorithm_SLIDING_WINDOW_LOG S_StoreFailurePolicy_OPEN E_StoreFailurePolicy_OPEN S_Duration_ZERO E_Duration_ZERO S_Long_LongCache_cache E_Long_LongCache_cache S_Rule_DEFAULT_ALGORITHM S_Rule_DEFAULT_STORE_FAILURE_POLICY F_Duration_ZERO_seconds F_Duration_ZERO_nanos OL BX p e ha hc hk s m _ below hf ((Spec.applies_iff_loose hf).mp happ).1 ⟨rfl, State.Warmed39.refl s, rfl⟩ trivial
  refine ⟨n, _, h1, h2, h3, hpost _ _ _ _ _ _ ⟨Cond.after_iff.mpr rfl, Cond.after_iff.mpr (eq_i res_at (Term.int_eval (1)) rfl), trivial⟩ ⟨hq.1, hq.2.1, hq.2.2.1, (hq.2.2.2.sift fun y hy => Or.inr (N y hy)).mono (by decide) (by decide)⟩⟩
theorem main_1_1 : Claimed_1_1 := comes_1 fun _ _ _ _ _ _ h hF => ⟨h.1, hF⟩
theorem main_1_2 : Claimed_1_2 := comes_1 fun _ _ _ _ _ _ h hF => ⟨h.2.1, hF⟩
end Jvm.Pilot.@@N@@
namespace Jvm.Pilot.@@N@@
open Jvm Jvm.ClassFile Sem Op Lib Jvm.Free Jvm.Stand Jvm.Pilot.@@N@@.Jvm.D
/-! MADE BY PROGRAM (witnessworld.py) out of the Statement's table words and the real class files: 38 classes; the members and pool entries that the words name. The judged class is class 1, her method 1. -/
namespace start1
open Jvm.ClassFile
def u (s : String) : CpInfo := .utf8 (stringToUtf16 s)
/-- a pool by its gaps: so many unusable entries, then the entry; so many at the end -/
def gap : Nat → List CpInfo → List CpInfo
  | 0, r => r
  | n + 1, r => .unusable :: gap n r
def poolList (es : List (Nat × CpInfo)) (last : Nat) : List CpInfo := es.foldr (fun e r => gap e.1 (e.2 :: r)) (gap last [])
def pool (es : List (Nat × CpInfo)) (last : Nat) : Array CpInfo := ⟨poolList es last⟩
def fileOf (pool : Array CpInfo) (this : Nat) (attrs : Array Attribute := #[]) (ms : Array MethodInfo := #[]) (fl : Nat := 33) (sup : Nat := 0) (ifs : Array Nat := #[]) (fds : Array FieldInfo := #[]) : ClassFile where
  minorVersion := 0
  majorVersion := 65
  constantPool := pool
  accessFlags := fl
  thisClass := this
  superClass := sup
  interfaces := ifs
  fields := fds
  methods := ms
  attributes := attrs
def plain (name : String) (sup : Option ClassId) : Class where
  name := name
  kind := .ordinary
  loader := none
  accessFlags := 33
  super := sup
  interfaces := #[]
  cf := none
  fields := #[]
  methods := #[]
  instanceTypes := #[]
  staticTypes := #[]
  resolved := #[]
  callSites := []
  init := .initialized
  statics := none
  mirror := none

def pool0 : Array CpInfo := pool [(5, u "<init>"), (0, u "()V"), (1, .class_ 10), (1, u "java/lang/Object")] 113

def k0c0 : Code := { maxStack := 0, maxLocals := 1, code := object_method_1_code, exceptionTable := #[], attributes := #[] }
def k0m0 : Method := { name := "<init>", desc := "()V", sig := { parameters := [], returnType := none }, accessFlags := 1, code := some k0c0 }
/-- java/lang/Object -/
def k0 : Class := { plain "java/lang/Object" none with
  accessFlags := 33
  interfaces := #[]
  cf := some (fileOf pool0 8 #[] #[{ accessFlags := 1, nameIndex := 5, descriptorIndex := 6, attributes := #[] }] 33 0 #[] #[])
  fields := #[]
  methods := #[k0m0]
  instanceTypes := #[]
  staticTypes := #[]
  resolved := Array.replicate 124 none
  statics := none }

def pool1 : Array CpInfo := pool [(2, .class_ 4), (1, u "java/lang/Object"), (0, u "<init>"), (0, u "()V"), (0, .integer 2147483647), (0, .methodref 9 10), (0, .class_ 11), (0, .nameAndType 12 13), (0, u "java/lang/Math"), (0, u "max"), (0, u "(II)I"), (0, .long 1000), (1, .long 2), (1, .long 140737488355327), (1, .class_ 21), (0, u "com/example/blend2/blend2/SlidingWindowLog"), (0, .class_ 23), (0, u "com/example/blend2/blend2/Rule"), (0, .string 25), (0, u "r"), (0, .methodref 22 27), (0, .nameAndType 5 28), (0, u "(Ljava/lang/String;II)V"), (0, .methodref 20 30), (0, .nameAndType 5 31), (0, u "(Lcom/example/blend2/blend2/Rule;)V"), (0, .methodref 20 33), (0, .nameAndType 34 35), (0, u "decide"), (0, u "(J)Lcom/example/blend2/blend2/Decision;"), (0, .methodref 20 37), (0, .nameAndType 38 39), (0, u "isIdleAt"), (0, u "(J)Z"), (0, .class_ 41), (0, u "com/example/blend2/blend2/SlidingWindowLogIsIdleAtPinLaw"), (2, u "law"), (0, u "(IIJJJ)Z")] 3

def k1m0 : Method := { name := "<init>", desc := "()V", sig := { parameters := [], returnType := none }, accessFlags := 1, code := none }
def k1c1 : Code := { maxStack := 7, maxLocals := 31, code := code, exceptionTable := #[], attributes := #[] }
def k1m1 : Method := { name := "law", desc := "(IIJJJ)Z", sig := { parameters := [.int, .int, .long, .long, .long], returnType := some .boolean }, accessFlags := 9, code := some k1c1 }
/-- com/example/blend2/blend2/SlidingWindowLogIsIdleAtPinLaw -/
def k1 : Class := { plain "com/example/blend2/blend2/SlidingWindowLogIsIdleAtPinLaw" (some 0) with
  accessFlags := 49
  interfaces := #[]
  cf := some (fileOf pool1 40 #[] #[{ accessFlags := 1, nameIndex := 5, descriptorIndex := 6, attributes := #[] }, { accessFlags := 9, nameIndex := 44, descriptorIndex := 45, attributes := #[] }] 49 2 #[] #[])
  fields := #[]
  methods := #[k1m0, k1m1]
  instanceTypes := #[]
  staticTypes := #[]
  resolved := Array.replicate 49 none
  statics := none }

def pool2 : Array CpInfo := pool [(1, .class_ 2), (0, u "java/lang/Math"), (1, .class_ 6), (1, u "java/lang/Object"), (0, u "<init>"), (0, u "()V"), (89, .class_ 100), (1, u "java/lang/Math$RandomNumberGeneratorHolder"), (71, u "negativeZeroFloatBits"), (0, u "J"), (2, u "negativeZeroDoubleBits"), (21, u "max"), (46, u "$assertionsDisabled"), (0, u "Z"), (88, u "(II)I"), (2, u "twoToTheDoubleScaleDown"), (0, u "D"), (4, u "twoToTheDoubleScaleUp"), (9, u "E"), (3, u "PI"), (2, u "TAU"), (2, u "DEGREES_TO_RADIANS"), (0, u "RADIANS_TO_DEGREES")] 94

def k2m0 : Method := { name := "<init>", desc := "()V", sig := { parameters := [], returnType := none }, accessFlags := 2, code := none }
def k2c1 : Code := { maxStack := 2, maxLocals := 2, code := jdk_29_method_65_code, exceptionTable := #[], attributes := #[] }
def k2m1 : Method := { name := "max", desc := "(II)I", sig := { parameters := [.int, .int], returnType := some .int }, accessFlags := 9, code := some k2c1 }
/-- java/lang/Math -/
def k2 : Class := { plain "java/lang/Math" (some 0) with
  accessFlags := 49
  interfaces := #[]
  cf := some (fileOf pool2 1 #[.nestMembers #[98]] #[{ accessFlags := 2, nameIndex := 7, descriptorIndex := 8, attributes := #[] }, { accessFlags := 9, nameIndex := 198, descriptorIndex := 335, attributes := #[] }] 49 4 #[] #[{ accessFlags := 25, nameIndex := 354, descriptorIndex := 339, attributes := #[] }, { accessFlags := 25, nameIndex := 358, descriptorIndex := 339, attributes := #[] }, { accessFlags := 25, nameIndex := 361, descriptorIndex := 339, attributes := #[] }, { accessFlags := 26, nameIndex := 364, descriptorIndex := 339, attributes := #[] }, { accessFlags := 26, nameIndex := 365, descriptorIndex := 339, attributes := #[] }, { accessFlags := 26, nameIndex := 172, descriptorIndex := 173, attributes := #[] }, { accessFlags := 26, nameIndex := 176, descriptorIndex := 173, attributes := #[] }, { accessFlags := 8, nameIndex := 344, descriptorIndex := 339, attributes := #[] }, { accessFlags := 8, nameIndex := 338, descriptorIndex := 339, attributes := #[] }, { accessFlags := 4120, nameIndex := 245, descriptorIndex := 246, attributes := #[] }])
  fields := #[{ name := "E", type := .double, accessFlags := 25, slot := 0, constantValue := 0 }, { name := "PI", type := .double, accessFlags := 25, slot := 1, constantValue := 0 }, { name := "TAU", type := .double, accessFlags := 25, slot := 2, constantValue := 0 }, { name := "DEGREES_TO_RADIANS", type := .double, accessFlags := 26, slot := 3, constantValue := 0 }, { name := "RADIANS_TO_DEGREES", type := .double, accessFlags := 26, slot := 4, constantValue := 0 }, { name := "negativeZeroFloatBits", type := .long, accessFlags := 26, slot := 5, constantValue := 0 }, { name := "negativeZeroDoubleBits", type := .long, accessFlags := 26, slot := 6, constantValue := 0 }, { name := "twoToTheDoubleScaleUp", type := .double, accessFlags := 8, slot := 7, constantValue := 0 }, { name := "twoToTheDoubleScaleDown", type := .double, accessFlags := 8, slot := 8, constantValue := 0 }, { name := "$assertionsDisabled", type := .boolean, accessFlags := 4120, slot := 9, constantValue := 0 }]
  methods := #[k2m0, k2m1]
  instanceTypes := #[]
  staticTypes := #[.double, .double, .double, .double, .double, .long, .long, .double, .double, .boolean]
  resolved := Array.replicate 460 none
  statics := none }

def pool3 : Array CpInfo := pool [(1, .class_ 2), (0, u "com/example/blend2/blend2/KeyState"), (0, .class_ 4), (0, u "java/lang/Object")] 6

/-- com/example/blend2/blend2/KeyState -/
def k3 : Class := { plain "com/example/blend2/blend2/KeyState" (some 0) with
  accessFlags := 1536
  interfaces := #[]
  cf := some (fileOf pool3 1 #[] #[] 1536 3 #[] #[])
  fields := #[]
  methods := #[]
  instanceTypes := #[]
  staticTypes := #[]
  resolved := Array.replicate 11 none
  statics := none }

def pool4 : Array CpInfo := pool [(1, .methodref 2 3), (0, .class_ 4), (0, .nameAndType 5 6), (0, u "java/lang/Object"), (0, u "<init>"), (0, u "()V"), (0, .class_ 8), (0, u "java/util/ArrayDeque"), (0, .methodref 7 3), (0, .fieldref 11 12), (0, .class_ 13), (0, .nameAndType 14 15), (0, u "com/example/blend2/blend2/SlidingWindowLog"), (0, u "admitted"), (0, u "Ljava/util/ArrayDeque;"), (0, .fieldref 11 17), (0, .nameAndType 18 19), (0, u "rule"), (0, u "Lcom/example/blend2/blend2/Rule;"), (0, .methodref 21 22), (0, .class_ 23), (0, .nameAndType 24 25), (0, u "com/example/blend2/blend2/Rule"), (0, u "timeWindowSec"), (0, u "()I"), (0, .long 1000), (1, .fieldref 11 29), (0, .nameAndType 30 31), (0, u "windowMillis"), (0, u "J"), (0, .methodref 7 33), (0, .nameAndType 34 35), (0, u "isEmpty"), (0, u "()Z"), (0, .methodref 7 37), (0, .nameAndType 38 39), (0, u "peekFirst"), (0, u "()Ljava/lang/Object;"), (0, .class_ 41), (0, u "java/lang/Long"), (0, .methodref 40 43), (0, .nameAndType 44 45), (0, u "longValue"), (0, u "()J"), (0, .methodref 7 47), (0, .nameAndType 48 39), (0, u "removeFirst"), (0, .methodref 7 50), (0, .nameAndType 51 25), (0, u "size"), (0, .methodref 21 53), (0, .nameAndType 54 25), (0, u "capacity"), (0, .methodref 40 56), (0, .nameAndType 57 58), (0, u "valueOf"), (0, u "(J)Ljava/lang/Long;"), (0, .methodref 7 60), (0, .nameAndType 61 62), (0, u "addLast"), (0, u "(Ljava/lang/Object;)V"), (0, .methodref 64 65), (0, .class_ 66), (0, .nameAndType 14 67), (0, u "com/example/blend2/blend2/Decision"), (0, u "(Lcom/example/blend2/blend2/Rule;I)Lcom/example/blend2/blend2/Decision;"), (0, .methodref 69 70), (0, .class_ 71), (0, .nameAndType 72 73), (0, u "java/time/Duration"), (0, u "ofMillis"), (0, u "(J)Ljava/time/Duration;"), (0, .methodref 64 75), (0, .nameAndType 76 77), (0, u "refused"), (0, u "(Lcom/example/blend2/blend2/Rule;Ljava/time/Duration;)Lcom/example/blend2/blend2/Decision;"), (0, .methodref 7 79), (0, .nameAndType 80 39), (0, u "peekLast"), (0, .class_ 82), (0, u "com/example/blend2/blend2/KeyState"), (2, u "(Lcom/example/blend2/blend2/Rule;)V"), (2, u "decide"), (0, u "(J)Lcom/example/blend2/blend2/Decision;"), (1, u "isIdleAt"), (0, u "(J)Z")] 2

def k4c0 : Code := { maxStack := 5, maxLocals := 2, code := prog_12_method_1_code, exceptionTable := #[], attributes := #[] }
def k4m0 : Method := { name := "<init>", desc := "(Lcom/example/blend2/blend2/Rule;)V", sig := { parameters := [(.object "com/example/blend2/blend2/Rule")], returnType := none }, accessFlags := 0, code := some k4c0 }
def k4c1 : Code := { maxStack := 5, maxLocals := 8, code := prog_12_method_2_code, exceptionTable := #[], attributes := #[] }
def k4m1 : Method := { name := "decide", desc := "(J)Lcom/example/blend2/blend2/Decision;", sig := { parameters := [.long], returnType := some (.object "com/example/blend2/blend2/Decision") }, accessFlags := 1, code := some k4c1 }
def k4c2 : Code := { maxStack := 6, maxLocals := 3, code := prog_12_method_3_code, exceptionTable := #[], attributes := #[] }
def k4m2 : Method := { name := "isIdleAt", desc := "(J)Z", sig := { parameters := [.long], returnType := some .boolean }, accessFlags := 1, code := some k4c2 }
/-- com/example/blend2/blend2/SlidingWindowLog -/
def k4 : Class := { plain "com/example/blend2/blend2/SlidingWindowLog" (some 0) with
  accessFlags := 48
  interfaces := #[3]
  cf := some (fileOf pool4 11 #[] #[{ accessFlags := 0, nameIndex := 5, descriptorIndex := 85, attributes := #[] }, { accessFlags := 1, nameIndex := 88, descriptorIndex := 89, attributes := #[] }, { accessFlags := 1, nameIndex := 91, descriptorIndex := 92, attributes := #[] }] 48 2 #[81] #[{ accessFlags := 18, nameIndex := 18, descriptorIndex := 19, attributes := #[] }, { accessFlags := 18, nameIndex := 30, descriptorIndex := 31, attributes := #[] }, { accessFlags := 18, nameIndex := 14, descriptorIndex := 15, attributes := #[] }])
  fields := #[{ name := "rule", type := (.object "com/example/blend2/blend2/Rule"), accessFlags := 18, slot := 0, constantValue := 0 }, { name := "windowMillis", type := .long, accessFlags := 18, slot := 1, constantValue := 0 }, { name := "admitted", type := (.object "java/util/ArrayDeque"), accessFlags := 18, slot := 2, constantValue := 0 }]
  methods := #[k4m0, k4m1, k4m2]
  instanceTypes := #[(.object "com/example/blend2/blend2/Rule"), .long, (.object "java/util/ArrayDeque")]
  staticTypes := #[]
  resolved := Array.replicate 95 none
  statics := none }

def pool5 : Array CpInfo := pool [(1, .methodref 2 3), (0, .class_ 4), (0, .nameAndType 5 6), (0, u "java/lang/Object"), (0, u "<init>"), (0, u "()V"), (0, .class_ 8), (0, u "java/lang/Record")] 13

def k5c0 : Code := { maxStack := 1, maxLocals := 1, code := jdk_30_method_1_code, exceptionTable := #[], attributes := #[] }
def k5m0 : Method := { name := "<init>", desc := "()V", sig := { parameters := [], returnType := none }, accessFlags := 4, code := some k5c0 }
/-- java/lang/Record -/
def k5 : Class := { plain "java/lang/Record" (some 0) with
  accessFlags := 1057
  interfaces := #[]
  cf := some (fileOf pool5 7 #[] #[{ accessFlags := 4, nameIndex := 5, descriptorIndex := 6, attributes := #[] }] 1057 2 #[] #[])
  fields := #[]
  methods := #[k5m0]
  instanceTypes := #[]
  staticTypes := #[]
  resolved := Array.replicate 22 none
  statics := none }

def pool6 : Array CpInfo := pool [(1, .methodref 2 3), (0, .class_ 4), (0, .nameAndType 5 6), (0, u "java/lang/Record"), (0, u "<init>"), (0, u "()V"), (0, .string 8), (0, u "name"), (0, .methodref 10 11), (0, .class_ 12), (0, .nameAndType 13 14), (0, u "java/util/Objects"), (0, u "requireNonNull"), (0, u "(Ljava/lang/Object;Ljava/lang/String;)Ljava/lang/Object;"), (0, .string 16), (0, u "algorithm"), (0, .string 18), (0, u "onStoreFailure"), (10, .fieldref 30 31), (0, .class_ 32), (0, .nameAndType 8 33), (0, u "com/example/blend2/blend2/Rule"), (0, u "Ljava/lang/String;"), (0, .fieldref 30 35), (0, .nameAndType 36 37), (0, u "capacity"), (0, u "I"), (0, .fieldref 30 39), (0, .nameAndType 40 37), (0, u "timeWindowSec"), (0, .fieldref 30 42), (0, .nameAndType 16 43), (0, u "Lcom/example/blend2/blend2/Algorithm;"), (0, .fieldref 30 45), (0, .nameAndType 18 46), (0, u "Lcom/example/blend2/blend2/StoreFailurePolicy;"), (0, .fieldref 30 48), (0, .nameAndType 49 43), (0, u "DEFAULT_ALGORITHM"), (0, .fieldref 30 51), (0, .nameAndType 52 46), (0, u "DEFAULT_STORE_FAILURE_POLICY"), (0, .methodref 30 54), (0, .nameAndType 5 55), (0, u "(Ljava/lang/String;IILcom/example/blend2/blend2/Algorithm;Lcom/example/blend2/blend2/StoreFailurePolicy;)V"), (22, u "CAPACITY"), (2, u "TIME_WINDOW_SEC"), (2, u "ALGORITHM"), (0, u "ON_STORE_FAILURE"), (8, u "(Ljava/lang/String;II)V"), (1, u "()I")] 38

def k6c0 : Code := { maxStack := 3, maxLocals := 6, code := prog_10_method_1_code, exceptionTable := #[], attributes := #[] }
def k6m0 : Method := { name := "<init>", desc := "(Ljava/lang/String;IILcom/example/blend2/blend2/Algorithm;Lcom/example/blend2/blend2/StoreFailurePolicy;)V", sig := { parameters := [(.object "java/lang/String"), .int, .int, (.object "com/example/blend2/blend2/Algorithm"), (.object "com/example/blend2/blend2/StoreFailurePolicy")], returnType := none }, accessFlags := 1, code := some k6c0 }
def k6c1 : Code := { maxStack := 6, maxLocals := 4, code := prog_10_method_2_code, exceptionTable := #[], attributes := #[] }
def k6m1 : Method := { name := "<init>", desc := "(Ljava/lang/String;II)V", sig := { parameters := [(.object "java/lang/String"), .int, .int], returnType := none }, accessFlags := 1, code := some k6c1 }
def k6c2 : Code := { maxStack := 1, maxLocals := 1, code := prog_10_method_7_code, exceptionTable := #[], attributes := #[] }
def k6m2 : Method := { name := "capacity", desc := "()I", sig := { parameters := [], returnType := some .int }, accessFlags := 1, code := some k6c2 }
def k6c3 : Code := { maxStack := 1, maxLocals := 1, code := prog_10_method_8_code, exceptionTable := #[], attributes := #[] }
def k6m3 : Method := { name := "timeWindowSec", desc := "()I", sig := { parameters := [], returnType := some .int }, accessFlags := 1, code := some k6c3 }
/-- com/example/blend2/blend2/Rule -/
def k6 : Class := { plain "com/example/blend2/blend2/Rule" (some 5) with
  accessFlags := 49
  interfaces := #[]
  cf := some (fileOf pool6 30 #[] #[{ accessFlags := 1, nameIndex := 5, descriptorIndex := 55, attributes := #[] }, { accessFlags := 1, nameIndex := 5, descriptorIndex := 94, attributes := #[] }, { accessFlags := 1, nameIndex := 36, descriptorIndex := 96, attributes := #[] }, { accessFlags := 1, nameIndex := 40, descriptorIndex := 96, attributes := #[] }] 49 2 #[] #[{ accessFlags := 18, nameIndex := 8, descriptorIndex := 33, attributes := #[] }, { accessFlags := 18, nameIndex := 36, descriptorIndex := 37, attributes := #[] }, { accessFlags := 18, nameIndex := 40, descriptorIndex := 37, attributes := #[] }, { accessFlags := 18, nameIndex := 16, descriptorIndex := 43, attributes := #[] }, { accessFlags := 18, nameIndex := 18, descriptorIndex := 46, attributes := #[] }, { accessFlags := 25, nameIndex := 49, descriptorIndex := 43, attributes := #[] }, { accessFlags := 25, nameIndex := 52, descriptorIndex := 46, attributes := #[] }, { accessFlags := 24, nameIndex := 78, descriptorIndex := 33, attributes := #[] }, { accessFlags := 24, nameIndex := 81, descriptorIndex := 33, attributes := #[] }, { accessFlags := 24, nameIndex := 84, descriptorIndex := 33, attributes := #[] }, { accessFlags := 24, nameIndex := 85, descriptorIndex := 33, attributes := #[] }])
  fields := #[{ name := "name", type := (.object "java/lang/String"), accessFlags := 18, slot := 0, constantValue := 0 }, { name := "capacity", type := .int, accessFlags := 18, slot := 1, constantValue := 0 }, { name := "timeWindowSec", type := .int, accessFlags := 18, slot := 2, constantValue := 0 }, { name := "algorithm", type := (.object "com/example/blend2/blend2/Algorithm"), accessFlags := 18, slot := 3, constantValue := 0 }, { name := "onStoreFailure", type := (.object "com/example/blend2/blend2/StoreFailurePolicy"), accessFlags := 18, slot := 4, constantValue := 0 }, { name := "DEFAULT_ALGORITHM", type := (.object "com/example/blend2/blend2/Algorithm"), accessFlags := 25, slot := 0, constantValue := 0 }, { name := "DEFAULT_STORE_FAILURE_POLICY", type := (.object "com/example/blend2/blend2/StoreFailurePolicy"), accessFlags := 25, slot := 1, constantValue := 0 }, { name := "CAPACITY", type := (.object "java/lang/String"), accessFlags := 24, slot := 2, constantValue := 0 }, { name := "TIME_WINDOW_SEC", type := (.object "java/lang/String"), accessFlags := 24, slot := 3, constantValue := 0 }, { name := "ALGORITHM", type := (.object "java/lang/String"), accessFlags := 24, slot := 4, constantValue := 0 }, { name := "ON_STORE_FAILURE", type := (.object "java/lang/String"), accessFlags := 24, slot := 5, constantValue := 0 }]
  methods := #[k6m0, k6m1, k6m2, k6m3]
  instanceTypes := #[(.object "java/lang/String"), .int, .int, (.object "com/example/blend2/blend2/Algorithm"), (.object "com/example/blend2/blend2/StoreFailurePolicy")]
  staticTypes := #[(.object "com/example/blend2/blend2/Algorithm"), (.object "com/example/blend2/blend2/StoreFailurePolicy"), (.object "java/lang/String"), (.object "java/lang/String"), (.object "java/lang/String"), (.object "java/lang/String")]
  resolved := Array.replicate 135 none
  statics := some 0 }

def pool7 : Array CpInfo := pool [(1, .class_ 2), (0, u "java/io/Serializable"), (0, .class_ 4), (0, u "java/lang/Object")] 2

/-- java/io/Serializable -/
def k7 : Class := { plain "java/io/Serializable" (some 0) with
  accessFlags := 1537
  interfaces := #[]
  cf := some (fileOf pool7 1 #[] #[] 1537 3 #[] #[])
  fields := #[]
  methods := #[]
  instanceTypes := #[]
  staticTypes := #[]
  resolved := Array.replicate 7 none
  statics := none }

def pool8 : Array CpInfo := pool [(1, .class_ 2), (0, u "java/lang/Comparable"), (0, .class_ 4), (0, u "java/lang/Object")] 7

/-- java/lang/Comparable -/
def k8 : Class := { plain "java/lang/Comparable" (some 0) with
  accessFlags := 1537
  interfaces := #[]
  cf := some (fileOf pool8 1 #[] #[] 1537 3 #[] #[])
  fields := #[]
  methods := #[]
  instanceTypes := #[]
  staticTypes := #[]
  resolved := Array.replicate 12 none
  statics := none }

def pool9 : Array CpInfo := pool [(2, .class_ 4), (1, u "java/lang/CharSequence"), (42, .class_ 48), (0, u "java/lang/CharSequence$1CodePointIterator"), (10, .class_ 60), (0, u "java/lang/CharSequence$1CharIterator"), (5, .class_ 67), (0, u "java/lang/Object")] 63

/-- java/lang/CharSequence -/
def k9 : Class := { plain "java/lang/CharSequence" (some 0) with
  accessFlags := 1537
  interfaces := #[]
  cf := some (fileOf pool9 2 #[.nestMembers #[47, 59]] #[] 1537 66 #[] #[])
  fields := #[]
  methods := #[]
  instanceTypes := #[]
  staticTypes := #[]
  resolved := Array.replicate 131 none
  statics := none }

def pool10 : Array CpInfo := pool [(1, .class_ 2), (0, u "java/lang/constant/Constable"), (0, .class_ 4), (0, u "java/lang/Object")] 6

/-- java/lang/constant/Constable -/
def k10 : Class := { plain "java/lang/constant/Constable" (some 0) with
  accessFlags := 1537
  interfaces := #[]
  cf := some (fileOf pool10 1 #[] #[] 1537 3 #[] #[])
  fields := #[]
  methods := #[]
  instanceTypes := #[]
  staticTypes := #[]
  resolved := Array.replicate 11 none
  statics := none }

def pool11 : Array CpInfo := pool [(1, .class_ 2), (0, u "java/lang/constant/ConstantDesc"), (0, .class_ 4), (0, u "java/lang/Object")] 32

/-- java/lang/constant/ConstantDesc -/
def k11 : Class := { plain "java/lang/constant/ConstantDesc" (some 0) with
  accessFlags := 1537
  interfaces := #[]
  cf := some (fileOf pool11 1 #[] #[] 1537 3 #[] #[])
  fields := #[]
  methods := #[]
  instanceTypes := #[]
  staticTypes := #[]
  resolved := Array.replicate 37 none
  statics := none }

def pool12 : Array CpInfo := pool [(2, .class_ 4), (1, u "java/lang/Object"), (0, u "<init>"), (0, u "()V"), (3, .class_ 12), (1, u "java/lang/String"), (0, u "value"), (0, u "[B"), (2, u "coder"), (0, u "B"), (2, u "hash"), (0, u "I"), (2, u "hashIsZero"), (0, u "Z"), (13, u "COMPACT_STRINGS"), (534, .class_ 576), (0, u "java/lang/CharSequence"), (22, u "CASE_INSENSITIVE_ORDER"), (0, u "Ljava/util/Comparator;"), (500, u "serialPersistentFields"), (0, u "[Ljava/io/ObjectStreamField;"), (0, .class_ 1104), (0, u "java/lang/String$CaseInsensitiveComparator"), (1, .class_ 1107), (0, u "java/io/Serializable"), (0, .class_ 1109), (0, u "java/lang/Comparable"), (0, .class_ 1111), (0, u "java/lang/constant/Constable"), (0, .class_ 1113), (0, u "java/lang/constant/ConstantDesc"), (2, u "serialVersionUID"), (0, u "J"), (3, u "REPL"), (0, u "C"), (2, u "LATIN1"), (1, u "UTF16")] 323

def k12m0 : Method := { name := "<init>", desc := "()V", sig := { parameters := [], returnType := none }, accessFlags := 1, code := none }
/-- java/lang/String -/
def k12 : Class := { plain "java/lang/String" (some 0) with
  accessFlags := 49
  interfaces := #[7, 8, 9, 10, 11]
  cf := some (fileOf pool12 10 #[.nestMembers #[1103]] #[{ accessFlags := 1, nameIndex := 5, descriptorIndex := 6, attributes := #[] }] 49 2 #[1106, 1108, 575, 1110, 1112] #[{ accessFlags := 18, nameIndex := 13, descriptorIndex := 14, attributes := #[] }, { accessFlags := 18, nameIndex := 17, descriptorIndex := 18, attributes := #[] }, { accessFlags := 2, nameIndex := 21, descriptorIndex := 22, attributes := #[] }, { accessFlags := 2, nameIndex := 25, descriptorIndex := 26, attributes := #[] }, { accessFlags := 26, nameIndex := 1116, descriptorIndex := 1117, attributes := #[] }, { accessFlags := 24, nameIndex := 40, descriptorIndex := 26, attributes := #[] }, { accessFlags := 26, nameIndex := 1101, descriptorIndex := 1102, attributes := #[] }, { accessFlags := 26, nameIndex := 1121, descriptorIndex := 1122, attributes := #[] }, { accessFlags := 25, nameIndex := 599, descriptorIndex := 600, attributes := #[] }, { accessFlags := 24, nameIndex := 1125, descriptorIndex := 18, attributes := #[] }, { accessFlags := 24, nameIndex := 1127, descriptorIndex := 18, attributes := #[] }])
  fields := #[{ name := "value", type := (.array .byte), accessFlags := 18, slot := 0, constantValue := 0 }, { name := "coder", type := .byte, accessFlags := 18, slot := 1, constantValue := 0 }, { name := "hash", type := .int, accessFlags := 2, slot := 2, constantValue := 0 }, { name := "hashIsZero", type := .boolean, accessFlags := 2, slot := 3, constantValue := 0 }, { name := "serialVersionUID", type := .long, accessFlags := 26, slot := 0, constantValue := 0 }, { name := "COMPACT_STRINGS", type := .boolean, accessFlags := 24, slot := 1, constantValue := 0 }, { name := "serialPersistentFields", type := (.array (.object "java/io/ObjectStreamField")), accessFlags := 26, slot := 2, constantValue := 0 }, { name := "REPL", type := .char, accessFlags := 26, slot := 3, constantValue := 0 }, { name := "CASE_INSENSITIVE_ORDER", type := (.object "java/util/Comparator"), accessFlags := 25, slot := 4, constantValue := 0 }, { name := "LATIN1", type := .byte, accessFlags := 24, slot := 5, constantValue := 0 }, { name := "UTF16", type := .byte, accessFlags := 24, slot := 6, constantValue := 0 }]
  methods := #[k12m0]
  instanceTypes := #[(.array .byte), .byte, .int, .boolean]
  staticTypes := #[.long, .boolean, (.array (.object "java/io/ObjectStreamField")), .char, (.object "java/util/Comparator"), .byte, .byte]
  resolved := Array.replicate 1451 none
  statics := none }

def pool13 : Array CpInfo := pool [(2, .class_ 4), (1, u "java/lang/Enum"), (0, u "name"), (0, u "Ljava/lang/String;"), (2, u "ordinal"), (0, u "I"), (1, .class_ 14), (1, u "java/lang/Object"), (4, u "hash"), (86, .class_ 108), (1, u "java/lang/Enum$EnumDesc"), (2, .class_ 112), (0, u "java/lang/constant/Constable"), (0, .class_ 114), (0, u "java/lang/Comparable"), (0, .class_ 116), (0, u "java/io/Serializable")] 87

/-- java/lang/Enum -/
def k13 : Class := { plain "java/lang/Enum" (some 0) with
  accessFlags := 1057
  interfaces := #[10, 8, 7]
  cf := some (fileOf pool13 2 #[.nestMembers #[106]] #[] 1057 12 #[111, 113, 115] #[{ accessFlags := 18, nameIndex := 5, descriptorIndex := 6, attributes := #[] }, { accessFlags := 18, nameIndex := 9, descriptorIndex := 10, attributes := #[] }, { accessFlags := 2, nameIndex := 19, descriptorIndex := 10, attributes := #[] }])
  fields := #[{ name := "name", type := (.object "java/lang/String"), accessFlags := 18, slot := 0, constantValue := 0 }, { name := "ordinal", type := .int, accessFlags := 18, slot := 1, constantValue := 0 }, { name := "hash", type := .int, accessFlags := 2, slot := 2, constantValue := 0 }]
  methods := #[]
  instanceTypes := #[(.object "java/lang/String"), .int, .int]
  staticTypes := #[]
  resolved := Array.replicate 204 none
  statics := none }

def pool14 : Array CpInfo := pool [(1, .class_ 2), (0, u "com/example/blend2/blend2/Algorithm"), (2, u "SLIDING_WINDOW_LOG"), (0, u "Lcom/example/blend2/blend2/Algorithm;"), (2, u "FIXED_WINDOW"), (2, u "SLIDING_WINDOW_COUNTER"), (2, u "TOKEN_BUCKET"), (2, u "LEAKY_BUCKET"), (2, u "$VALUES"), (0, u "[Lcom/example/blend2/blend2/Algorithm;"), (6, .class_ 31), (1, u "java/lang/Enum")] 27

/-- com/example/blend2/blend2/Algorithm -/
def k14 : Class := { plain "com/example/blend2/blend2/Algorithm" (some 13) with
  accessFlags := 16433
  interfaces := #[]
  cf := some (fileOf pool14 1 #[] #[] 16433 29 #[] #[{ accessFlags := 16409, nameIndex := 5, descriptorIndex := 6, attributes := #[] }, { accessFlags := 16409, nameIndex := 9, descriptorIndex := 6, attributes := #[] }, { accessFlags := 16409, nameIndex := 12, descriptorIndex := 6, attributes := #[] }, { accessFlags := 16409, nameIndex := 15, descriptorIndex := 6, attributes := #[] }, { accessFlags := 16409, nameIndex := 18, descriptorIndex := 6, attributes := #[] }, { accessFlags := 4122, nameIndex := 21, descriptorIndex := 22, attributes := #[] }])
  fields := #[{ name := "SLIDING_WINDOW_LOG", type := (.object "com/example/blend2/blend2/Algorithm"), accessFlags := 16409, slot := 0, constantValue := 0 }, { name := "FIXED_WINDOW", type := (.object "com/example/blend2/blend2/Algorithm"), accessFlags := 16409, slot := 1, constantValue := 0 }, { name := "SLIDING_WINDOW_COUNTER", type := (.object "com/example/blend2/blend2/Algorithm"), accessFlags := 16409, slot := 2, constantValue := 0 }, { name := "TOKEN_BUCKET", type := (.object "com/example/blend2/blend2/Algorithm"), accessFlags := 16409, slot := 3, constantValue := 0 }, { name := "LEAKY_BUCKET", type := (.object "com/example/blend2/blend2/Algorithm"), accessFlags := 16409, slot := 4, constantValue := 0 }, { name := "$VALUES", type := (.array (.object "com/example/blend2/blend2/Algorithm")), accessFlags := 4122, slot := 5, constantValue := 0 }]
  methods := #[]
  instanceTypes := #[(.object "java/lang/String"), .int, .int]
  staticTypes := #[(.object "com/example/blend2/blend2/Algorithm"), (.object "com/example/blend2/blend2/Algorithm"), (.object "com/example/blend2/blend2/Algorithm"), (.object "com/example/blend2/blend2/Algorithm"), (.object "com/example/blend2/blend2/Algorithm"), (.array (.object "com/example/blend2/blend2/Algorithm"))]
  resolved := Array.replicate 59 none
  statics := some 1 }

def pool15 : Array CpInfo := pool [(1, .class_ 2), (0, u "com/example/blend2/blend2/StoreFailurePolicy"), (2, u "OPEN"), (0, u "Lcom/example/blend2/blend2/StoreFailurePolicy;"), (2, u "CLOSED"), (2, u "$VALUES"), (0, u "[Lcom/example/blend2/blend2/StoreFailurePolicy;"), (6, .class_ 22), (1, u "java/lang/Enum")] 24

/-- com/example/blend2/blend2/StoreFailurePolicy -/
def k15 : Class := { plain "com/example/blend2/blend2/StoreFailurePolicy" (some 13) with
  accessFlags := 16433
  interfaces := #[]
  cf := some (fileOf pool15 1 #[] #[] 16433 20 #[] #[{ accessFlags := 16409, nameIndex := 5, descriptorIndex := 6, attributes := #[] }, { accessFlags := 16409, nameIndex := 9, descriptorIndex := 6, attributes := #[] }, { accessFlags := 4122, nameIndex := 12, descriptorIndex := 13, attributes := #[] }])
  fields := #[{ name := "OPEN", type := (.object "com/example/blend2/blend2/StoreFailurePolicy"), accessFlags := 16409, slot := 0, constantValue := 0 }, { name := "CLOSED", type := (.object "com/example/blend2/blend2/StoreFailurePolicy"), accessFlags := 16409, slot := 1, constantValue := 0 }, { name := "$VALUES", type := (.array (.object "com/example/blend2/blend2/StoreFailurePolicy")), accessFlags := 4122, slot := 2, constantValue := 0 }]
  methods := #[]
  instanceTypes := #[(.object "java/lang/String"), .int, .int]
  staticTypes := #[(.object "com/example/blend2/blend2/StoreFailurePolicy"), (.object "com/example/blend2/blend2/StoreFailurePolicy"), (.array (.object "com/example/blend2/blend2/StoreFailurePolicy"))]
  resolved := Array.replicate 47 none
  statics := some 2 }

def pool16 : Array CpInfo := pool [(2, .class_ 4), (1, u "java/lang/Object"), (0, u "<init>"), (0, u "()V"), (35, .class_ 44), (1, u "java/util/Objects"), (0, u "requireNonNull"), (0, u "(Ljava/lang/Object;)Ljava/lang/Object;"), (47, u "(Ljava/lang/Object;Ljava/lang/String;)Ljava/lang/Object;")] 89

def k16m0 : Method := { name := "<init>", desc := "()V", sig := { parameters := [], returnType := none }, accessFlags := 2, code := none }
def k16c1 : Code := { maxStack := 2, maxLocals := 1, code := jdk_31_method_10_code, exceptionTable := #[], attributes := #[] }
def k16m1 : Method := { name := "requireNonNull", desc := "(Ljava/lang/Object;)Ljava/lang/Object;", sig := { parameters := [(.object "java/lang/Object")], returnType := some (.object "java/lang/Object") }, accessFlags := 9, code := some k16c1 }
def k16c2 : Code := { maxStack := 3, maxLocals := 2, code := jdk_31_method_11_code, exceptionTable := #[], attributes := #[] }
def k16m2 : Method := { name := "requireNonNull", desc := "(Ljava/lang/Object;Ljava/lang/String;)Ljava/lang/Object;", sig := { parameters := [(.object "java/lang/Object"), (.object "java/lang/String")], returnType := some (.object "java/lang/Object") }, accessFlags := 9, code := some k16c2 }
/-- java/util/Objects -/
def k16 : Class := { plain "java/util/Objects" (some 0) with
  accessFlags := 49
  interfaces := #[]
  cf := some (fileOf pool16 42 #[] #[{ accessFlags := 2, nameIndex := 5, descriptorIndex := 6, attributes := #[] }, { accessFlags := 9, nameIndex := 45, descriptorIndex := 46, attributes := #[] }, { accessFlags := 9, nameIndex := 45, descriptorIndex := 94, attributes := #[] }] 49 2 #[] #[])
  fields := #[]
  methods := #[k16m0, k16m1, k16m2]
  instanceTypes := #[]
  staticTypes := #[]
  resolved := Array.replicate 184 none
  statics := none }

def pool17 : Array CpInfo := pool [(8, .class_ 10), (1, u "java/lang/Iterable"), (24, .class_ 36), (0, u "java/lang/Object")] 25

/-- java/lang/Iterable -/
def k17 : Class := { plain "java/lang/Iterable" (some 0) with
  accessFlags := 1537
  interfaces := #[]
  cf := some (fileOf pool17 8 #[] #[] 1537 35 #[] #[])
  fields := #[]
  methods := #[]
  instanceTypes := #[]
  staticTypes := #[]
  resolved := Array.replicate 62 none
  statics := none }

def pool18 : Array CpInfo := pool [(10, .class_ 12), (1, u "java/util/Collection"), (47, .class_ 61), (0, u "java/lang/Object"), (0, .class_ 63), (0, u "java/lang/Iterable")] 51

/-- java/util/Collection -/
def k18 : Class := { plain "java/util/Collection" (some 0) with
  accessFlags := 1537
  interfaces := #[17]
  cf := some (fileOf pool18 10 #[] #[] 1537 60 #[62] #[])
  fields := #[]
  methods := #[]
  instanceTypes := #[]
  staticTypes := #[]
  resolved := Array.replicate 115 none
  statics := none }

def pool19 : Array CpInfo := pool [(1, .methodref 2 3), (0, .class_ 4), (0, .nameAndType 5 6), (0, u "java/lang/Object"), (0, u "<init>"), (0, u "()V"), (1, .class_ 10), (1, u "java/util/AbstractCollection"), (66, .class_ 78), (0, u "java/util/Collection")] 81

def k19c0 : Code := { maxStack := 1, maxLocals := 1, code := jdk_22_method_1_code, exceptionTable := #[], attributes := #[] }
def k19m0 : Method := { name := "<init>", desc := "()V", sig := { parameters := [], returnType := none }, accessFlags := 4, code := some k19c0 }
/-- java/util/AbstractCollection -/
def k19 : Class := { plain "java/util/AbstractCollection" (some 0) with
  accessFlags := 1057
  interfaces := #[18]
  cf := some (fileOf pool19 8 #[] #[{ accessFlags := 4, nameIndex := 5, descriptorIndex := 6, attributes := #[] }] 1057 2 #[77] #[])
  fields := #[]
  methods := #[k19m0]
  instanceTypes := #[]
  staticTypes := #[]
  resolved := Array.replicate 160 none
  statics := none }

def pool20 : Array CpInfo := pool [(1, .class_ 2), (0, u "java/util/Queue"), (0, .class_ 4), (0, u "java/lang/Object"), (0, .class_ 6), (0, u "java/util/Collection")] 14

/-- java/util/Queue -/
def k20 : Class := { plain "java/util/Queue" (some 0) with
  accessFlags := 1537
  interfaces := #[18]
  cf := some (fileOf pool20 1 #[] #[] 1537 3 #[5] #[])
  fields := #[]
  methods := #[]
  instanceTypes := #[]
  staticTypes := #[]
  resolved := Array.replicate 21 none
  statics := none }

def pool21 : Array CpInfo := pool [(8, .class_ 10), (1, u "java/util/SequencedCollection"), (15, .class_ 27), (0, u "java/lang/Object"), (0, .class_ 29), (0, u "java/util/Collection")] 27

/-- java/util/SequencedCollection -/
def k21 : Class := { plain "java/util/SequencedCollection" (some 0) with
  accessFlags := 1537
  interfaces := #[18]
  cf := some (fileOf pool21 8 #[] #[] 1537 26 #[28] #[])
  fields := #[]
  methods := #[]
  instanceTypes := #[]
  staticTypes := #[]
  resolved := Array.replicate 57 none
  statics := none }

def pool22 : Array CpInfo := pool [(8, .class_ 10), (1, u "java/util/Deque"), (2, .class_ 14), (0, u "java/lang/Object"), (0, .class_ 16), (0, u "java/util/Queue"), (0, .class_ 18), (0, u "java/util/SequencedCollection")] 51

/-- java/util/Deque -/
def k22 : Class := { plain "java/util/Deque" (some 0) with
  accessFlags := 1537
  interfaces := #[20, 21]
  cf := some (fileOf pool22 8 #[] #[] 1537 13 #[15, 17] #[])
  fields := #[]
  methods := #[]
  instanceTypes := #[]
  staticTypes := #[]
  resolved := Array.replicate 70 none
  statics := none }

def pool23 : Array CpInfo := pool [(1, .class_ 2), (0, u "java/lang/Cloneable"), (0, .class_ 4), (0, u "java/lang/Object")] 2

/-- java/lang/Cloneable -/
def k23 : Class := { plain "java/lang/Cloneable" (some 0) with
  accessFlags := 1537
  interfaces := #[]
  cf := some (fileOf pool23 1 #[] #[] 1537 3 #[] #[])
  fields := #[]
  methods := #[]
  instanceTypes := #[]
  staticTypes := #[]
  resolved := Array.replicate 7 none
  statics := none }

def pool24 : Array CpInfo := pool [(3, .fieldref 4 5), (0, .class_ 6), (0, .nameAndType 7 8), (0, u "java/util/ArrayDeque"), (0, u "elements"), (0, u "[Ljava/lang/Object;"), (4, u "(II)I"), (6, .fieldref 4 21), (0, .nameAndType 22 23), (0, u "tail"), (0, u "I"), (0, .fieldref 4 25), (0, .nameAndType 26 23), (0, u "head"), (12, u "<init>"), (2, .methodref 43 44), (0, .class_ 45), (0, .nameAndType 39 46), (0, u "java/util/AbstractCollection"), (0, u "()V"), (0, .class_ 48), (0, u "java/lang/Object"), (4, u "size"), (0, u "()I"), (13, .methodref 4 69), (0, .nameAndType 70 13), (0, u "dec"), (3, .methodref 4 75), (0, .nameAndType 76 13), (0, u "inc"), (12, u "(Ljava/lang/Object;)V"), (2, u "addLast"), (0, .methodref 4 94), (0, .nameAndType 95 96), (0, u "pollFirst"), (0, u "()Ljava/lang/Object;"), (6, .methodref 4 104), (0, .nameAndType 105 106), (0, u "elementAt"), (0, u "([Ljava/lang/Object;I)Ljava/lang/Object;"), (13, u "removeFirst"), (5, u "peekFirst"), (0, .methodref 4 128), (0, .nameAndType 129 130), (0, u "sub"), (0, u "(III)I"), (0, .class_ 132), (0, u "java/util/ArrayDeque$DeqIterator"), (3, .class_ 137), (0, u "java/util/ArrayDeque$DescendingIterator"), (1, .class_ 140), (0, u "java/util/ArrayDeque$DeqSpliterator"), (137, .class_ 279), (0, u "java/util/Deque"), (0, .class_ 281), (0, u "java/lang/Cloneable"), (0, .class_ 283), (0, u "java/io/Serializable"), (0, u "MAX_ARRAY_SIZE"), (1, u "serialVersionUID"), (0, u "J"), (44, u "peekLast"), (14, u "isEmpty"), (0, u "()Z")] 89

def k24c0 : Code := { maxStack := 2, maxLocals := 1, code := jdk_21_method_3_code, exceptionTable := #[], attributes := #[] }
def k24m0 : Method := { name := "<init>", desc := "()V", sig := { parameters := [], returnType := none }, accessFlags := 1, code := some k24c0 }
def k24c1 : Code := { maxStack := 2, maxLocals := 2, code := jdk_21_method_6_code, exceptionTable := #[], attributes := #[] }
def k24m1 : Method := { name := "inc", desc := "(II)I", sig := { parameters := [.int, .int], returnType := some .int }, accessFlags := 24, code := some k24c1 }
def k24c2 : Code := { maxStack := 2, maxLocals := 2, code := jdk_21_method_7_code, exceptionTable := #[], attributes := #[] }
def k24m2 : Method := { name := "dec", desc := "(II)I", sig := { parameters := [.int, .int], returnType := some .int }, accessFlags := 24, code := some k24c2 }
def k24c3 : Code := { maxStack := 2, maxLocals := 3, code := jdk_21_method_9_code, exceptionTable := #[], attributes := #[] }
def k24m3 : Method := { name := "sub", desc := "(III)I", sig := { parameters := [.int, .int, .int], returnType := some .int }, accessFlags := 24, code := some k24c3 }
def k24c4 : Code := { maxStack := 2, maxLocals := 2, code := jdk_21_method_10_code, exceptionTable := #[], attributes := #[] }
def k24m4 : Method := { name := "elementAt", desc := "([Ljava/lang/Object;I)Ljava/lang/Object;", sig := { parameters := [(.array (.object "java/lang/Object")), .int], returnType := some (.object "java/lang/Object") }, accessFlags := 24, code := some k24c4 }
def k24c5 : Code := { maxStack := 4, maxLocals := 3, code := jdk_21_method_13_code, exceptionTable := #[], attributes := #[] }
def k24m5 : Method := { name := "addLast", desc := "(Ljava/lang/Object;)V", sig := { parameters := [(.object "java/lang/Object")], returnType := none }, accessFlags := 1, code := some k24c5 }
def k24c6 : Code := { maxStack := 2, maxLocals := 2, code := jdk_21_method_18_code, exceptionTable := #[], attributes := #[] }
def k24m6 : Method := { name := "removeFirst", desc := "()Ljava/lang/Object;", sig := { parameters := [], returnType := some (.object "java/lang/Object") }, accessFlags := 1, code := some k24c6 }
def k24c7 : Code := { maxStack := 3, maxLocals := 4, code := jdk_21_method_20_code, exceptionTable := #[], attributes := #[] }
def k24m7 : Method := { name := "pollFirst", desc := "()Ljava/lang/Object;", sig := { parameters := [], returnType := some (.object "java/lang/Object") }, accessFlags := 1, code := some k24c7 }
def k24c8 : Code := { maxStack := 2, maxLocals := 1, code := jdk_21_method_24_code, exceptionTable := #[], attributes := #[] }
def k24m8 : Method := { name := "peekFirst", desc := "()Ljava/lang/Object;", sig := { parameters := [], returnType := some (.object "java/lang/Object") }, accessFlags := 1, code := some k24c8 }
def k24c9 : Code := { maxStack := 3, maxLocals := 2, code := jdk_21_method_25_code, exceptionTable := #[], attributes := #[] }
def k24m9 : Method := { name := "peekLast", desc := "()Ljava/lang/Object;", sig := { parameters := [], returnType := some (.object "java/lang/Object") }, accessFlags := 1, code := some k24c9 }
def k24c10 : Code := { maxStack := 3, maxLocals := 1, code := jdk_21_method_37_code, exceptionTable := #[], attributes := #[] }
def k24m10 : Method := { name := "size", desc := "()I", sig := { parameters := [], returnType := some .int }, accessFlags := 1, code := some k24c10 }
def k24c11 : Code := { maxStack := 2, maxLocals := 1, code := jdk_21_method_38_code, exceptionTable := #[], attributes := #[] }
def k24m11 : Method := { name := "isEmpty", desc := "()Z", sig := { parameters := [], returnType := some .boolean }, accessFlags := 1, code := some k24c11 }
/-- java/util/ArrayDeque -/
def k24 : Class := { plain "java/util/ArrayDeque" (some 19) with
  accessFlags := 33
  interfaces := #[22, 23, 7]
  cf := some (fileOf pool24 4 #[.nestMembers #[139, 136, 131]] #[{ accessFlags := 1, nameIndex := 39, descriptorIndex := 46, attributes := #[] }, { accessFlags := 24, nameIndex := 76, descriptorIndex := 13, attributes := #[] }, { accessFlags := 24, nameIndex := 70, descriptorIndex := 13, attributes := #[] }, { accessFlags := 24, nameIndex := 129, descriptorIndex := 130, attributes := #[] }, { accessFlags := 24, nameIndex := 105, descriptorIndex := 106, attributes := #[] }, { accessFlags := 1, nameIndex := 92, descriptorIndex := 89, attributes := #[] }, { accessFlags := 1, nameIndex := 120, descriptorIndex := 96, attributes := #[] }, { accessFlags := 1, nameIndex := 95, descriptorIndex := 96, attributes := #[] }, { accessFlags := 1, nameIndex := 126, descriptorIndex := 96, attributes := #[] }, { accessFlags := 1, nameIndex := 332, descriptorIndex := 96, attributes := #[] }, { accessFlags := 1, nameIndex := 53, descriptorIndex := 54, attributes := #[] }, { accessFlags := 1, nameIndex := 347, descriptorIndex := 348, attributes := #[] }] 33 43 #[278, 280, 282] #[{ accessFlags := 128, nameIndex := 7, descriptorIndex := 8, attributes := #[] }, { accessFlags := 128, nameIndex := 26, descriptorIndex := 23, attributes := #[] }, { accessFlags := 128, nameIndex := 22, descriptorIndex := 23, attributes := #[] }, { accessFlags := 26, nameIndex := 284, descriptorIndex := 23, attributes := #[] }, { accessFlags := 26, nameIndex := 286, descriptorIndex := 287, attributes := #[] }])
  fields := #[{ name := "elements", type := (.array (.object "java/lang/Object")), accessFlags := 128, slot := 0, constantValue := 0 }, { name := "head", type := .int, accessFlags := 128, slot := 1, constantValue := 0 }, { name := "tail", type := .int, accessFlags := 128, slot := 2, constantValue := 0 }, { name := "MAX_ARRAY_SIZE", type := .int, accessFlags := 26, slot := 0, constantValue := 0 }, { name := "serialVersionUID", type := .long, accessFlags := 26, slot := 1, constantValue := 0 }]
  methods := #[k24m0, k24m1, k24m2, k24m3, k24m4, k24m5, k24m6, k24m7, k24m8, k24m9, k24m10, k24m11]
  instanceTypes := #[(.array (.object "java/lang/Object")), .int, .int]
  staticTypes := #[.int, .long]
  resolved := Array.replicate 438 none
  statics := none }

def pool25 : Array CpInfo := pool [(1, .methodref 2 3), (0, .class_ 4), (0, .nameAndType 5 6), (0, u "java/lang/Object"), (0, u "<init>"), (0, u "()V"), (1, .class_ 10), (1, u "java/lang/Number"), (2, .class_ 14), (0, u "java/io/Serializable"), (0, u "serialVersionUID"), (0, u "J")] 20

def k25c0 : Code := { maxStack := 1, maxLocals := 1, code := jdk_18_method_1_code, exceptionTable := #[], attributes := #[] }
def k25m0 : Method := { name := "<init>", desc := "()V", sig := { parameters := [], returnType := none }, accessFlags := 1, code := some k25c0 }
/-- java/lang/Number -/
def k25 : Class := { plain "java/lang/Number" (some 0) with
  accessFlags := 1057
  interfaces := #[7]
  cf := some (fileOf pool25 8 #[] #[{ accessFlags := 1, nameIndex := 5, descriptorIndex := 6, attributes := #[] }] 1057 2 #[13] #[{ accessFlags := 26, nameIndex := 15, descriptorIndex := 16, attributes := #[] }])
  fields := #[{ name := "serialVersionUID", type := .long, accessFlags := 26, slot := 0, constantValue := 0 }]
  methods := #[k25m0]
  instanceTypes := #[]
  staticTypes := #[.long]
  resolved := Array.replicate 37 none
  statics := none }

def pool26 : Array CpInfo := pool [(1, .class_ 2), (0, u "java/lang/Long"), (55, .nameAndType 59 60), (0, u "<init>"), (0, u "()V"), (24, u "valueOf"), (143, u "(J)Ljava/lang/Long;"), (0, .long 18446744073709551488), (1, .long 127), (1, .fieldref 235 236), (0, .class_ 237), (0, .nameAndType 238 239), (0, u "java/lang/Long$LongCache"), (0, u "cache"), (0, u "[Ljava/lang/Long;"), (0, .methodref 1 241), (0, .nameAndType 59 242), (0, u "(J)V"), (27, .methodref 271 58), (0, .class_ 272), (0, u "java/lang/Number"), (0, .fieldref 1 274), (0, .nameAndType 275 276), (0, u "value"), (0, u "J"), (5, u "longValue"), (0, u "()J"), (77, u "TYPE"), (0, u "Ljava/lang/Class;"), (0, .class_ 364), (0, u "java/lang/Comparable"), (0, .class_ 366), (0, u "java/lang/constant/Constable"), (0, .class_ 368), (0, u "java/lang/constant/ConstantDesc"), (0, u "MIN_VALUE"), (1, u "MAX_VALUE"), (4, u "SIZE"), (0, u "I"), (1, u "BYTES"), (1, u "serialVersionUID")] 142

def k26c0 : Code := { maxStack := 4, maxLocals := 3, code := jdk_35_method_24_code, exceptionTable := #[], attributes := #[] }
def k26m0 : Method := { name := "valueOf", desc := "(J)Ljava/lang/Long;", sig := { parameters := [.long], returnType := some (.object "java/lang/Long") }, accessFlags := 9, code := some k26c0 }
def k26c1 : Code := { maxStack := 3, maxLocals := 3, code := jdk_35_method_26_code, exceptionTable := #[], attributes := #[] }
def k26m1 : Method := { name := "<init>", desc := "(J)V", sig := { parameters := [.long], returnType := none }, accessFlags := 1, code := some k26c1 }
def k26c2 : Code := { maxStack := 2, maxLocals := 1, code := jdk_35_method_31_code, exceptionTable := #[], attributes := #[] }
def k26m2 : Method := { name := "longValue", desc := "()J", sig := { parameters := [], returnType := some .long }, accessFlags := 1, code := some k26c2 }
/-- java/lang/Long -/
def k26 : Class := { plain "java/lang/Long" (some 25) with
  accessFlags := 49
  interfaces := #[8, 10, 11]
  cf := some (fileOf pool26 1 #[.nestMembers #[235]] #[{ accessFlags := 9, nameIndex := 85, descriptorIndex := 229, attributes := #[] }, { accessFlags := 1, nameIndex := 59, descriptorIndex := 242, attributes := #[] }, { accessFlags := 1, nameIndex := 282, descriptorIndex := 283, attributes := #[] }] 49 271 #[363, 365, 367] #[{ accessFlags := 25, nameIndex := 369, descriptorIndex := 276, attributes := #[] }, { accessFlags := 25, nameIndex := 371, descriptorIndex := 276, attributes := #[] }, { accessFlags := 25, nameIndex := 361, descriptorIndex := 362, attributes := #[] }, { accessFlags := 18, nameIndex := 275, descriptorIndex := 276, attributes := #[] }, { accessFlags := 25, nameIndex := 376, descriptorIndex := 377, attributes := #[] }, { accessFlags := 25, nameIndex := 379, descriptorIndex := 377, attributes := #[] }, { accessFlags := 26, nameIndex := 381, descriptorIndex := 276, attributes := #[] }])
  fields := #[{ name := "MIN_VALUE", type := .long, accessFlags := 25, slot := 0, constantValue := 0 }, { name := "MAX_VALUE", type := .long, accessFlags := 25, slot := 1, constantValue := 0 }, { name := "TYPE", type := (.object "java/lang/Class"), accessFlags := 25, slot := 2, constantValue := 0 }, { name := "value", type := .long, accessFlags := 18, slot := 0, constantValue := 0 }, { name := "SIZE", type := .int, accessFlags := 25, slot := 3, constantValue := 0 }, { name := "BYTES", type := .int, accessFlags := 25, slot := 4, constantValue := 0 }, { name := "serialVersionUID", type := .long, accessFlags := 26, slot := 5, constantValue := 0 }]
  methods := #[k26m0, k26m1, k26m2]
  instanceTypes := #[.long]
  staticTypes := #[.long, .long, (.object "java/lang/Class"), .int, .int, .long]
  resolved := Array.replicate 524 none
  statics := none }

def pool27 : Array CpInfo := pool [(1, .methodref 2 3), (0, .class_ 4), (0, .nameAndType 5 6), (0, u "java/lang/Record"), (0, u "<init>"), (0, u "()V"), (0, .string 8), (0, u "rule"), (0, .methodref 10 11), (0, .class_ 12), (0, .nameAndType 13 14), (0, u "java/util/Objects"), (0, u "requireNonNull"), (0, u "(Ljava/lang/Object;Ljava/lang/String;)Ljava/lang/Object;"), (0, .string 16), (0, u "retryAfter"), (0, .string 18), (0, u "delay"), (9, .methodref 29 30), (0, .class_ 31), (0, .nameAndType 32 33), (0, u "java/time/Duration"), (0, u "isNegative"), (0, u "()Z"), (10, .fieldref 45 46), (0, .class_ 47), (0, .nameAndType 48 49), (0, u "com/example/blend2/blend2/Decision"), (0, u "allowed"), (0, u "Z"), (0, .fieldref 45 51), (0, .nameAndType 8 52), (0, u "Ljava/util/Optional;"), (0, .fieldref 45 54), (0, .nameAndType 55 56), (0, u "remaining"), (0, u "I"), (0, .fieldref 45 58), (0, .nameAndType 16 59), (0, u "Ljava/time/Duration;"), (0, .fieldref 45 61), (0, .nameAndType 18 59), (0, .fieldref 45 63), (0, .nameAndType 64 49), (0, u "degraded"), (1, .class_ 68), (1, u "java/util/Optional"), (5, .fieldref 29 75), (0, .nameAndType 76 59), (0, u "ZERO"), (0, .methodref 45 78), (0, .nameAndType 5 79), (0, u "(ZLjava/util/Optional;ILjava/time/Duration;Ljava/time/Duration;Z)V"), (0, .methodref 45 81), (0, .nameAndType 82 83), (0, u "admitted"), (0, u "(Lcom/example/blend2/blend2/Rule;ILjava/time/Duration;)Lcom/example/blend2/blend2/Decision;"), (0, .methodref 66 85), (0, .nameAndType 86 87), (0, u "of"), (0, u "(Ljava/lang/Object;)Ljava/util/Optional;"), (14, u "DEGRADED_RETRY_AFTER"), (25, u "(Lcom/example/blend2/blend2/Rule;I)Lcom/example/blend2/blend2/Decision;"), (0, u "refused"), (0, u "(Lcom/example/blend2/blend2/Rule;Ljava/time/Duration;)Lcom/example/blend2/blend2/Decision;")] 44

def k27c0 : Code := { maxStack := 3, maxLocals := 7, code := prog_2_method_1_code, exceptionTable := #[], attributes := #[] }
def k27m0 : Method := { name := "<init>", desc := "(ZLjava/util/Optional;ILjava/time/Duration;Ljava/time/Duration;Z)V", sig := { parameters := [.boolean, (.object "java/util/Optional"), .int, (.object "java/time/Duration"), (.object "java/time/Duration"), .boolean], returnType := none }, accessFlags := 1, code := some k27c0 }
def k27c1 : Code := { maxStack := 3, maxLocals := 2, code := prog_2_method_3_code, exceptionTable := #[], attributes := #[] }
def k27m1 : Method := { name := "admitted", desc := "(Lcom/example/blend2/blend2/Rule;I)Lcom/example/blend2/blend2/Decision;", sig := { parameters := [(.object "com/example/blend2/blend2/Rule"), .int], returnType := some (.object "com/example/blend2/blend2/Decision") }, accessFlags := 9, code := some k27c1 }
def k27c2 : Code := { maxStack := 8, maxLocals := 3, code := prog_2_method_4_code, exceptionTable := #[], attributes := #[] }
def k27m2 : Method := { name := "admitted", desc := "(Lcom/example/blend2/blend2/Rule;ILjava/time/Duration;)Lcom/example/blend2/blend2/Decision;", sig := { parameters := [(.object "com/example/blend2/blend2/Rule"), .int, (.object "java/time/Duration")], returnType := some (.object "com/example/blend2/blend2/Decision") }, accessFlags := 9, code := some k27c2 }
def k27c3 : Code := { maxStack := 8, maxLocals := 2, code := prog_2_method_5_code, exceptionTable := #[], attributes := #[] }
def k27m3 : Method := { name := "refused", desc := "(Lcom/example/blend2/blend2/Rule;Ljava/time/Duration;)Lcom/example/blend2/blend2/Decision;", sig := { parameters := [(.object "com/example/blend2/blend2/Rule"), (.object "java/time/Duration")], returnType := some (.object "com/example/blend2/blend2/Decision") }, accessFlags := 9, code := some k27c3 }
/-- com/example/blend2/blend2/Decision -/
def k27 : Class := { plain "com/example/blend2/blend2/Decision" (some 5) with
  accessFlags := 49
  interfaces := #[]
  cf := some (fileOf pool27 45 #[] #[{ accessFlags := 1, nameIndex := 5, descriptorIndex := 79, attributes := #[] }, { accessFlags := 9, nameIndex := 82, descriptorIndex := 128, attributes := #[] }, { accessFlags := 9, nameIndex := 82, descriptorIndex := 83, attributes := #[] }, { accessFlags := 9, nameIndex := 129, descriptorIndex := 130, attributes := #[] }] 49 2 #[] #[{ accessFlags := 18, nameIndex := 48, descriptorIndex := 49, attributes := #[] }, { accessFlags := 18, nameIndex := 8, descriptorIndex := 52, attributes := #[] }, { accessFlags := 18, nameIndex := 55, descriptorIndex := 56, attributes := #[] }, { accessFlags := 18, nameIndex := 16, descriptorIndex := 59, attributes := #[] }, { accessFlags := 18, nameIndex := 18, descriptorIndex := 59, attributes := #[] }, { accessFlags := 18, nameIndex := 64, descriptorIndex := 49, attributes := #[] }, { accessFlags := 26, nameIndex := 102, descriptorIndex := 59, attributes := #[] }])
  fields := #[{ name := "allowed", type := .boolean, accessFlags := 18, slot := 0, constantValue := 0 }, { name := "rule", type := (.object "java/util/Optional"), accessFlags := 18, slot := 1, constantValue := 0 }, { name := "remaining", type := .int, accessFlags := 18, slot := 2, constantValue := 0 }, { name := "retryAfter", type := (.object "java/time/Duration"), accessFlags := 18, slot := 3, constantValue := 0 }, { name := "delay", type := (.object "java/time/Duration"), accessFlags := 18, slot := 4, constantValue := 0 }, { name := "degraded", type := .boolean, accessFlags := 18, slot := 5, constantValue := 0 }, { name := "DEGRADED_RETRY_AFTER", type := (.object "java/time/Duration"), accessFlags := 26, slot := 0, constantValue := 0 }]
  methods := #[k27m0, k27m1, k27m2, k27m3]
  instanceTypes := #[.boolean, (.object "java/util/Optional"), .int, (.object "java/time/Duration"), (.object "java/time/Duration"), .boolean]
  staticTypes := #[(.object "java/time/Duration")]
  resolved := Array.replicate 175 none
  statics := none }

def pool28 : Array CpInfo := pool [(1, .class_ 2), (0, u "java/time/temporal/TemporalAmount"), (0, .class_ 4), (0, u "java/lang/Object")] 11

/-- java/time/temporal/TemporalAmount -/
def k28 : Class := { plain "java/time/temporal/TemporalAmount" (some 0) with
  accessFlags := 1537
  interfaces := #[]
  cf := some (fileOf pool28 1 #[] #[] 1537 3 #[] #[])
  fields := #[]
  methods := #[]
  instanceTypes := #[]
  staticTypes := #[]
  resolved := Array.replicate 16 none
  statics := none }

def pool29 : Array CpInfo := pool [(10, .methodref 11 12), (0, .class_ 13), (0, .nameAndType 14 15), (0, u "java/time/Duration"), (0, u "create"), (0, u "(JI)Ljava/time/Duration;"), (12, .long 1000), (1, .integer 1000000), (3, u "ZERO"), (0, u "Ljava/time/Duration;"), (13, .class_ 51), (1, u "java/time/temporal/TemporalAmount"), (13, u "()Z"), (13, .class_ 81), (1, u "java/time/Duration$Lazy"), (35, u "seconds"), (21, u "<init>"), (17, .nameAndType 139 158), (0, u "()V"), (40, u "(J)Ljava/time/Duration;"), (15, .methodref 11 216), (0, .nameAndType 139 217), (0, u "(JI)V"), (0, .methodref 219 157), (0, .class_ 220), (0, u "java/lang/Object"), (0, .fieldref 11 222), (0, .nameAndType 117 223), (0, u "J"), (0, .fieldref 11 225), (0, .nameAndType 226 227), (0, u "nanos"), (0, u "I"), (11, .class_ 241), (1, u "java/time/Duration$DurationUnits"), (27, .class_ 271), (1, u "java/time/Duration$1"), (91, u "BI_NANOS_PER_SECOND"), (0, u "Ljava/math/BigInteger;"), (21, u "isNegative"), (98, .class_ 486), (0, u "java/lang/Comparable"), (0, .class_ 488), (0, u "java/io/Serializable"), (0, u "serialVersionUID"), (12, u "ofMillis")] 153

def k29c0 : Code := { maxStack := 4, maxLocals := 5, code := jdk_2316_method_6_code, exceptionTable := #[], attributes := #[] }
def k29m0 : Method := { name := "ofMillis", desc := "(J)Ljava/time/Duration;", sig := { parameters := [.long], returnType := some (.object "java/time/Duration") }, accessFlags := 9, code := some k29c0 }
def k29c1 : Code := { maxStack := 5, maxLocals := 3, code := jdk_2316_method_16_code, exceptionTable := #[], attributes := #[] }
def k29m1 : Method := { name := "create", desc := "(JI)Ljava/time/Duration;", sig := { parameters := [.long, .int], returnType := some (.object "java/time/Duration") }, accessFlags := 10, code := some k29c1 }
def k29c2 : Code := { maxStack := 3, maxLocals := 4, code := jdk_2316_method_17_code, exceptionTable := #[], attributes := #[] }
def k29m2 : Method := { name := "<init>", desc := "(JI)V", sig := { parameters := [.long, .int], returnType := none }, accessFlags := 2, code := some k29c2 }
def k29c3 : Code := { maxStack := 4, maxLocals := 1, code := jdk_2316_method_22_code, exceptionTable := #[], attributes := #[] }
def k29m3 : Method := { name := "isNegative", desc := "()Z", sig := { parameters := [], returnType := some .boolean }, accessFlags := 1, code := some k29c3 }
/-- java/time/Duration -/
def k29 : Class := { plain "java/time/Duration" (some 0) with
  accessFlags := 49
  interfaces := #[28, 8, 7]
  cf := some (fileOf pool29 11 #[.nestMembers #[269, 239, 79]] #[{ accessFlags := 9, nameIndex := 502, descriptorIndex := 199, attributes := #[] }, { accessFlags := 10, nameIndex := 14, descriptorIndex := 15, attributes := #[] }, { accessFlags := 2, nameIndex := 139, descriptorIndex := 217, attributes := #[] }, { accessFlags := 1, nameIndex := 386, descriptorIndex := 65, attributes := #[] }] 49 219 #[49, 485, 487] #[{ accessFlags := 25, nameIndex := 34, descriptorIndex := 35, attributes := #[] }, { accessFlags := 26, nameIndex := 489, descriptorIndex := 223, attributes := #[] }, { accessFlags := 26, nameIndex := 363, descriptorIndex := 364, attributes := #[] }, { accessFlags := 18, nameIndex := 117, descriptorIndex := 223, attributes := #[] }, { accessFlags := 18, nameIndex := 226, descriptorIndex := 227, attributes := #[] }])
  fields := #[{ name := "ZERO", type := (.object "java/time/Duration"), accessFlags := 25, slot := 0, constantValue := 0 }, { name := "serialVersionUID", type := .long, accessFlags := 26, slot := 1, constantValue := 0 }, { name := "BI_NANOS_PER_SECOND", type := (.object "java/math/BigInteger"), accessFlags := 26, slot := 2, constantValue := 0 }, { name := "seconds", type := .long, accessFlags := 18, slot := 0, constantValue := 0 }, { name := "nanos", type := .int, accessFlags := 18, slot := 1, constantValue := 0 }]
  methods := #[k29m0, k29m1, k29m2, k29m3]
  instanceTypes := #[.long, .int]
  staticTypes := #[(.object "java/time/Duration"), .long, (.object "java/math/BigInteger")]
  resolved := Array.replicate 656 none
  statics := some 3 }

def pool30 : Array CpInfo := pool [(2, .class_ 4), (1, u "java/util/Optional"), (0, u "EMPTY"), (0, u "Ljava/util/Optional;"), (0, .methodref 8 9), (0, .class_ 10), (0, .nameAndType 11 12), (0, u "java/lang/Object"), (0, u "<init>"), (0, u "()V"), (0, .fieldref 2 14), (0, .nameAndType 15 16), (0, u "value"), (0, u "Ljava/lang/Object;"), (0, .methodref 18 19), (0, .class_ 20), (0, .nameAndType 21 22), (0, u "java/util/Objects"), (0, u "requireNonNull"), (0, u "(Ljava/lang/Object;)Ljava/lang/Object;"), (0, .methodref 2 24), (0, .nameAndType 11 25), (0, u "(Ljava/lang/Object;)V"), (39, u "(Ljava/lang/Object;)Ljava/util/Optional;"), (16, u "of")] 104

def k30c0 : Code := { maxStack := 2, maxLocals := 2, code := jdk_32_method_2_code, exceptionTable := #[], attributes := #[] }
def k30m0 : Method := { name := "<init>", desc := "(Ljava/lang/Object;)V", sig := { parameters := [(.object "java/lang/Object")], returnType := none }, accessFlags := 2, code := some k30c0 }
def k30c1 : Code := { maxStack := 3, maxLocals := 1, code := jdk_32_method_3_code, exceptionTable := #[], attributes := #[] }
def k30m1 : Method := { name := "of", desc := "(Ljava/lang/Object;)Ljava/util/Optional;", sig := { parameters := [(.object "java/lang/Object")], returnType := some (.object "java/util/Optional") }, accessFlags := 9, code := some k30c1 }
/-- java/util/Optional -/
def k30 : Class := { plain "java/util/Optional" (some 0) with
  accessFlags := 49
  interfaces := #[]
  cf := some (fileOf pool30 2 #[] #[{ accessFlags := 2, nameIndex := 11, descriptorIndex := 25, attributes := #[] }, { accessFlags := 9, nameIndex := 82, descriptorIndex := 65, attributes := #[] }] 49 8 #[] #[{ accessFlags := 26, nameIndex := 5, descriptorIndex := 6, attributes := #[] }, { accessFlags := 18, nameIndex := 15, descriptorIndex := 16, attributes := #[] }])
  fields := #[{ name := "EMPTY", type := (.object "java/util/Optional"), accessFlags := 26, slot := 0, constantValue := 0 }, { name := "value", type := (.object "java/lang/Object"), accessFlags := 18, slot := 0, constantValue := 0 }]
  methods := #[k30m0, k30m1]
  instanceTypes := #[(.object "java/lang/Object")]
  staticTypes := #[(.object "java/util/Optional")]
  resolved := Array.replicate 187 none
  statics := none }

def pool31 : Array CpInfo := pool [(2, .class_ 4), (1, u "java/lang/Object"), (0, u "<init>"), (0, u "()V"), (0, .class_ 8), (0, u "java/lang/Long"), (7, .class_ 18), (1, u "java/lang/Long$LongCache"), (0, u "$assertionsDisabled"), (0, u "Z"), (8, u "archivedCache"), (0, u "[Ljava/lang/Long;"), (7, u "cache")] 24

def k31m0 : Method := { name := "<init>", desc := "()V", sig := { parameters := [], returnType := none }, accessFlags := 2, code := none }
/-- java/lang/Long$LongCache -/
def k31 : Class := { plain "java/lang/Long$LongCache" (some 0) with
  accessFlags := 48
  interfaces := #[]
  cf := some (fileOf pool31 16 #[.nestHost 7] #[{ accessFlags := 2, nameIndex := 5, descriptorIndex := 6, attributes := #[] }] 48 2 #[] #[{ accessFlags := 24, nameIndex := 38, descriptorIndex := 30, attributes := #[] }, { accessFlags := 8, nameIndex := 29, descriptorIndex := 30, attributes := #[] }, { accessFlags := 4120, nameIndex := 19, descriptorIndex := 20, attributes := #[] }])
  fields := #[{ name := "cache", type := (.array (.object "java/lang/Long")), accessFlags := 24, slot := 0, constantValue := 0 }, { name := "archivedCache", type := (.array (.object "java/lang/Long")), accessFlags := 8, slot := 1, constantValue := 0 }, { name := "$assertionsDisabled", type := .boolean, accessFlags := 4120, slot := 2, constantValue := 0 }]
  methods := #[k31m0]
  instanceTypes := #[]
  staticTypes := #[(.array (.object "java/lang/Long")), (.array (.object "java/lang/Long")), .boolean]
  resolved := Array.replicate 63 none
  statics := some 4 }

/-- the primitive byte -/
def k32 : Class := { plain "byte" none with kind := .primitive 'B', accessFlags := 0x411 }
/-- [B -/
def k33 : Class := { plain "[B" (some 0) with kind := .array 32 .byte, interfaces := #[23, 7], accessFlags := 1041 }

/-- the primitive int -/
def k34 : Class := { plain "int" none with kind := .primitive 'I', accessFlags := 0x411 }
/-- [I -/
def k35 : Class := { plain "[I" (some 0) with kind := .array 34 .int, interfaces := #[23, 7], accessFlags := 1041 }

/-- [Ljava/lang/Long; -/
def k36 : Class := { plain "[Ljava/lang/Long;" (some 0) with kind := .array 26 (.object "java/lang/Long"), interfaces := #[23, 7], accessFlags := 1041 }

/-- [Ljava/lang/Object; -/
def k37 : Class := { plain "[Ljava/lang/Object;" (some 0) with kind := .array 0 (.object "java/lang/Object"), interfaces := #[23, 7], accessFlags := 1041 }

def heap : Heap := #[{ cls := 6, slots := #[.ref 6, .ref 7, .null, .null, .null, .null], vm := .statics 6 },
  { cls := 14, slots := #[.ref 6, .null, .null, .null, .null, .null], vm := .statics 14 },
  { cls := 15, slots := #[.ref 7, .null, .null], vm := .statics 15 },
  { cls := 29, slots := #[.ref 264, .long 0, .null], vm := .statics 29 },
  { cls := 31, slots := #[.ref 5, .null, .int 0], vm := .statics 31 },
  { cls := 36, slots := #[.ref 8, .ref 9, .ref 10, .ref 11, .ref 12, .ref 13, .ref 14, .ref 15, .ref 16, .ref 17, .ref 18, .ref 19, .ref 20, .ref 21, .ref 22, .ref 23, .ref 24, .ref 25, .ref 26, .ref 27, .ref 28, .ref 29, .ref 30, .ref 31, .ref 32, .ref 33, .ref 34, .ref 35, .ref 36, .ref 37, .ref 38, .ref 39, .ref 40, .ref 41, .ref 42, .ref 43, .ref 44, .ref 45, .ref 46, .ref 47, .ref 48, .ref 49, .ref 50, .ref 51, .ref 52, .ref 53, .ref 54, .ref 55, .ref 56, .ref 57, .ref 58, .ref 59, .ref 60, .ref 61, .ref 62, .ref 63, .ref 64, .ref 65, .ref 66, .ref 67, .ref 68, .ref 69, .ref 70, .ref 71, .ref 72, .ref 73, .ref 74, .ref 75, .ref 76, .ref 77, .ref 78, .ref 79, .ref 80, .ref 81, .ref 82, .ref 83, .ref 84, .ref 85, .ref 86, .ref 87, .ref 88, .ref 89, .ref 90, .ref 91, .ref 92, .ref 93, .ref 94, .ref 95, .ref 96, .ref 97, .ref 98, .ref 99, .ref 100, .ref 101, .ref 102, .ref 103, .ref 104, .ref 105, .ref 106, .ref 107, .ref 108, .ref 109, .ref 110, .ref 111, .ref 112, .ref 113, .ref 114, .ref 115, .ref 116, .ref 117, .ref 118, .ref 119, .ref 120, .ref 121, .ref 122, .ref 123, .ref 124, .ref 125, .ref 126, .ref 127, .ref 128, .ref 129, .ref 130, .ref 131, .ref 132, .ref 133, .ref 134, .ref 135, .ref 136, .ref 137, .ref 138, .ref 139, .ref 140, .ref 141, .ref 142, .ref 143, .ref 144, .ref 145, .ref 146, .ref 147, .ref 148, .ref 149, .ref 150, .ref 151, .ref 152, .ref 153, .ref 154, .ref 155, .ref 156, .ref 157, .ref 158, .ref 159, .ref 160, .ref 161, .ref 162, .ref 163, .ref 164, .ref 165, .ref 166, .ref 167, .ref 168, .ref 169, .ref 170, .ref 171, .ref 172, .ref 173, .ref 174, .ref 175, .ref 176, .ref 177, .ref 178, .ref 179, .ref 180, .ref 181, .ref 182, .ref 183, .ref 184, .ref 185, .ref 186, .ref 187, .ref 188, .ref 189, .ref 190, .ref 191, .ref 192, .ref 193, .ref 194, .ref 195, .ref 196, .ref 197, .ref 198, .ref 199, .ref 200, .ref 201, .ref 202, .ref 203, .ref 204, .ref 205, .ref 206, .ref 207, .ref 208, .ref 209, .ref 210, .ref 211, .ref 212, .ref 213, .ref 214, .ref 215, .ref 216, .ref 217, .ref 218, .ref 219, .ref 220, .ref 221, .ref 222, .ref 223, .ref 224, .ref 225, .ref 226, .ref 227, .ref 228, .ref 229, .ref 230, .ref 231, .ref 232, .ref 233, .ref 234, .ref 235, .ref 236, .ref 237, .ref 238, .ref 239, .ref 240, .ref 241, .ref 242, .ref 243, .ref 244, .ref 245, .ref 246, .ref 247, .ref 248, .ref 249, .ref 250, .ref 251, .ref 252, .ref 253, .ref 254, .ref 255, .ref 256, .ref 257, .ref 258, .ref 259, .ref 260, .ref 261, .ref 262, .ref 263], vm := .none },
  { cls := 14, slots := #[.null, .int 0, .int 0], vm := .none },
  { cls := 15, slots := #[.null, .int 0, .int 0], vm := .none },
  { cls := 26, slots := #[.long (-128)], vm := .none },
  { cls := 26, slots := #[.long (-127)], vm := .none },
  { cls := 26, slots := #[.long (-126)], vm := .none },
  { cls := 26, slots := #[.long (-125)], vm := .none },
  { cls := 26, slots := #[.long (-124)], vm := .none },
  { cls := 26, slots := #[.long (-123)], vm := .none },
  { cls := 26, slots := #[.long (-122)], vm := .none },
  { cls := 26, slots := #[.long (-121)], vm := .none },
  { cls := 26, slots := #[.long (-120)], vm := .none },
  { cls := 26, slots := #[.long (-119)], vm := .none },
  { cls := 26, slots := #[.long (-118)], vm := .none },
  { cls := 26, slots := #[.long (-117)], vm := .none },
  { cls := 26, slots := #[.long (-116)], vm := .none },
  { cls := 26, slots := #[.long (-115)], vm := .none },
  { cls := 26, slots := #[.long (-114)], vm := .none },
  { cls := 26, slots := #[.long (-113)], vm := .none },
  { cls := 26, slots := #[.long (-112)], vm := .none },
  { cls := 26, slots := #[.long (-111)], vm := .none },
  { cls := 26, slots := #[.long (-110)], vm := .none },
  { cls := 26, slots := #[.long (-109)], vm := .none },
  { cls := 26, slots := #[.long (-108)], vm := .none },
  { cls := 26, slots := #[.long (-107)], vm := .none },
  { cls := 26, slots := #[.long (-106)], vm := .none },
  { cls := 26, slots := #[.long (-105)], vm := .none },
  { cls := 26, slots := #[.long (-104)], vm := .none },
  { cls := 26, slots := #[.long (-103)], vm := .none },
  { cls := 26, slots := #[.long (-102)], vm := .none },
  { cls := 26, slots := #[.long (-101)], vm := .none },
  { cls := 26, slots := #[.long (-100)], vm := .none },
  { cls := 26, slots := #[.long (-99)], vm := .none },
  { cls := 26, slots := #[.long (-98)], vm := .none },
  { cls := 26, slots := #[.long (-97)], vm := .none },
  { cls := 26, slots := #[.long (-96)], vm := .none },
  { cls := 26, slots := #[.long (-95)], vm := .none },
  { cls := 26, slots := #[.long (-94)], vm := .none },
  { cls := 26, slots := #[.long (-93)], vm := .none },
  { cls := 26, slots := #[.long (-92)], vm := .none },
  { cls := 26, slots := #[.long (-91)], vm := .none },
  { cls := 26, slots := #[.long (-90)], vm := .none },
  { cls := 26, slots := #[.long (-89)], vm := .none },
  { cls := 26, slots := #[.long (-88)], vm := .none },
  { cls := 26, slots := #[.long (-87)], vm := .none },
  { cls := 26, slots := #[.long (-86)], vm := .none },
  { cls := 26, slots := #[.long (-85)], vm := .none },
  { cls := 26, slots := #[.long (-84)], vm := .none },
  { cls := 26, slots := #[.long (-83)], vm := .none },
  { cls := 26, slots := #[.long (-82)], vm := .none },
  { cls := 26, slots := #[.long (-81)], vm := .none },
  { cls := 26, slots := #[.long (-80)], vm := .none },
  { cls := 26, slots := #[.long (-79)], vm := .none },
  { cls := 26, slots := #[.long (-78)], vm := .none },
  { cls := 26, slots := #[.long (-77)], vm := .none },
  { cls := 26, slots := #[.long (-76)], vm := .none },
  { cls := 26, slots := #[.long (-75)], vm := .none },
  { cls := 26, slots := #[.long (-74)], vm := .none },
  { cls := 26, slots := #[.long (-73)], vm := .none },
  { cls := 26, slots := #[.long (-72)], vm := .none },
  { cls := 26, slots := #[.long (-71)], vm := .none },
  { cls := 26, slots := #[.long (-70)], vm := .none },
  { cls := 26, slots := #[.long (-69)], vm := .none },
  { cls := 26, slots := #[.long (-68)], vm := .none },
  { cls := 26, slots := #[.long (-67)], vm := .none },
  { cls := 26, slots := #[.long (-66)], vm := .none },
  { cls := 26, slots := #[.long (-65)], vm := .none },
  { cls := 26, slots := #[.long (-64)], vm := .none },
  { cls := 26, slots := #[.long (-63)], vm := .none },
  { cls := 26, slots := #[.long (-62)], vm := .none },
  { cls := 26, slots := #[.long (-61)], vm := .none },
  { cls := 26, slots := #[.long (-60)], vm := .none },
  { cls := 26, slots := #[.long (-59)], vm := .none },
  { cls := 26, slots := #[.long (-58)], vm := .none },
  { cls := 26, slots := #[.long (-57)], vm := .none },
  { cls := 26, slots := #[.long (-56)], vm := .none },
  { cls := 26, slots := #[.long (-55)], vm := .none },
  { cls := 26, slots := #[.long (-54)], vm := .none },
  { cls := 26, slots := #[.long (-53)], vm := .none },
  { cls := 26, slots := #[.long (-52)], vm := .none },
  { cls := 26, slots := #[.long (-51)], vm := .none },
  { cls := 26, slots := #[.long (-50)], vm := .none },
  { cls := 26, slots := #[.long (-49)], vm := .none },
  { cls := 26, slots := #[.long (-48)], vm := .none },
  { cls := 26, slots := #[.long (-47)], vm := .none },
  { cls := 26, slots := #[.long (-46)], vm := .none },
  { cls := 26, slots := #[.long (-45)], vm := .none },
  { cls := 26, slots := #[.long (-44)], vm := .none },
  { cls := 26, slots := #[.long (-43)], vm := .none },
  { cls := 26, slots := #[.long (-42)], vm := .none },
  { cls := 26, slots := #[.long (-41)], vm := .none },
  { cls := 26, slots := #[.long (-40)], vm := .none },
  { cls := 26, slots := #[.long (-39)], vm := .none },
  { cls := 26, slots := #[.long (-38)], vm := .none },
  { cls := 26, slots := #[.long (-37)], vm := .none },
  { cls := 26, slots := #[.long (-36)], vm := .none },
  { cls := 26, slots := #[.long (-35)], vm := .none },
  { cls := 26, slots := #[.long (-34)], vm := .none },
  { cls := 26, slots := #[.long (-33)], vm := .none },
  { cls := 26, slots := #[.long (-32)], vm := .none },
  { cls := 26, slots := #[.long (-31)], vm := .none },
  { cls := 26, slots := #[.long (-30)], vm := .none },
  { cls := 26, slots := #[.long (-29)], vm := .none },
  { cls := 26, slots := #[.long (-28)], vm := .none },
  { cls := 26, slots := #[.long (-27)], vm := .none },
  { cls := 26, slots := #[.long (-26)], vm := .none },
  { cls := 26, slots := #[.long (-25)], vm := .none },
  { cls := 26, slots := #[.long (-24)], vm := .none },
  { cls := 26, slots := #[.long (-23)], vm := .none },
  { cls := 26, slots := #[.long (-22)], vm := .none },
  { cls := 26, slots := #[.long (-21)], vm := .none },
  { cls := 26, slots := #[.long (-20)], vm := .none },
  { cls := 26, slots := #[.long (-19)], vm := .none },
  { cls := 26, slots := #[.long (-18)], vm := .none },
  { cls := 26, slots := #[.long (-17)], vm := .none },
  { cls := 26, slots := #[.long (-16)], vm := .none },
  { cls := 26, slots := #[.long (-15)], vm := .none },
  { cls := 26, slots := #[.long (-14)], vm := .none },
  { cls := 26, slots := #[.long (-13)], vm := .none },
  { cls := 26, slots := #[.long (-12)], vm := .none },
  { cls := 26, slots := #[.long (-11)], vm := .none },
  { cls := 26, slots := #[.long (-10)], vm := .none },
  { cls := 26, slots := #[.long (-9)], vm := .none },
  { cls := 26, slots := #[.long (-8)], vm := .none },
  { cls := 26, slots := #[.long (-7)], vm := .none },
  { cls := 26, slots := #[.long (-6)], vm := .none },
  { cls := 26, slots := #[.long (-5)], vm := .none },
  { cls := 26, slots := #[.long (-4)], vm := .none },
  { cls := 26, slots := #[.long (-3)], vm := .none },
  { cls := 26, slots := #[.long (-2)], vm := .none },
  { cls := 26, slots := #[.long (-1)], vm := .none },
  { cls := 26, slots := #[.long 0], vm := .none },
  { cls := 26, slots := #[.long 1], vm := .none },
  { cls := 26, slots := #[.long 2], vm := .none },
  { cls := 26, slots := #[.long 3], vm := .none },
  { cls := 26, slots := #[.long 4], vm := .none },
  { cls := 26, slots := #[.long 5], vm := .none },
  { cls := 26, slots := #[.long 6], vm := .none },
  { cls := 26, slots := #[.long 7], vm := .none },
  { cls := 26, slots := #[.long 8], vm := .none },
  { cls := 26, slots := #[.long 9], vm := .none },
  { cls := 26, slots := #[.long 10], vm := .none },
  { cls := 26, slots := #[.long 11], vm := .none },
  { cls := 26, slots := #[.long 12], vm := .none },
  { cls := 26, slots := #[.long 13], vm := .none },
  { cls := 26, slots := #[.long 14], vm := .none },
  { cls := 26, slots := #[.long 15], vm := .none },
  { cls := 26, slots := #[.long 16], vm := .none },
  { cls := 26, slots := #[.long 17], vm := .none },
  { cls := 26, slots := #[.long 18], vm := .none },
  { cls := 26, slots := #[.long 19], vm := .none },
  { cls := 26, slots := #[.long 20], vm := .none },
  { cls := 26, slots := #[.long 21], vm := .none },
  { cls := 26, slots := #[.long 22], vm := .none },
  { cls := 26, slots := #[.long 23], vm := .none },
  { cls := 26, slots := #[.long 24], vm := .none },
  { cls := 26, slots := #[.long 25], vm := .none },
  { cls := 26, slots := #[.long 26], vm := .none },
  { cls := 26, slots := #[.long 27], vm := .none },
  { cls := 26, slots := #[.long 28], vm := .none },
  { cls := 26, slots := #[.long 29], vm := .none },
  { cls := 26, slots := #[.long 30], vm := .none },
  { cls := 26, slots := #[.long 31], vm := .none },
  { cls := 26, slots := #[.long 32], vm := .none },
  { cls := 26, slots := #[.long 33], vm := .none },
  { cls := 26, slots := #[.long 34], vm := .none },
  { cls := 26, slots := #[.long 35], vm := .none },
  { cls := 26, slots := #[.long 36], vm := .none },
  { cls := 26, slots := #[.long 37], vm := .none },
  { cls := 26, slots := #[.long 38], vm := .none },
  { cls := 26, slots := #[.long 39], vm := .none },
  { cls := 26, slots := #[.long 40], vm := .none },
  { cls := 26, slots := #[.long 41], vm := .none },
  { cls := 26, slots := #[.long 42], vm := .none },
  { cls := 26, slots := #[.long 43], vm := .none },
  { cls := 26, slots := #[.long 44], vm := .none },
  { cls := 26, slots := #[.long 45], vm := .none },
  { cls := 26, slots := #[.long 46], vm := .none },
  { cls := 26, slots := #[.long 47], vm := .none },
  { cls := 26, slots := #[.long 48], vm := .none },
  { cls := 26, slots := #[.long 49], vm := .none },
  { cls := 26, slots := #[.long 50], vm := .none },
  { cls := 26, slots := #[.long 51], vm := .none },
  { cls := 26, slots := #[.long 52], vm := .none },
  { cls := 26, slots := #[.long 53], vm := .none },
  { cls := 26, slots := #[.long 54], vm := .none },
  { cls := 26, slots := #[.long 55], vm := .none },
  { cls := 26, slots := #[.long 56], vm := .none },
  { cls := 26, slots := #[.long 57], vm := .none },
  { cls := 26, slots := #[.long 58], vm := .none },
  { cls := 26, slots := #[.long 59], vm := .none },
  { cls := 26, slots := #[.long 60], vm := .none },
  { cls := 26, slots := #[.long 61], vm := .none },
  { cls := 26, slots := #[.long 62], vm := .none },
  { cls := 26, slots := #[.long 63], vm := .none },
  { cls := 26, slots := #[.long 64], vm := .none },
  { cls := 26, slots := #[.long 65], vm := .none },
  { cls := 26, slots := #[.long 66], vm := .none },
  { cls := 26, slots := #[.long 67], vm := .none },
  { cls := 26, slots := #[.long 68], vm := .none },
  { cls := 26, slots := #[.long 69], vm := .none },
  { cls := 26, slots := #[.long 70], vm := .none },
  { cls := 26, slots := #[.long 71], vm := .none },
  { cls := 26, slots := #[.long 72], vm := .none },
  { cls := 26, slots := #[.long 73], vm := .none },
  { cls := 26, slots := #[.long 74], vm := .none },
  { cls := 26, slots := #[.long 75], vm := .none },
  { cls := 26, slots := #[.long 76], vm := .none },
  { cls := 26, slots := #[.long 77], vm := .none },
  { cls := 26, slots := #[.long 78], vm := .none },
  { cls := 26, slots := #[.long 79], vm := .none },
  { cls := 26, slots := #[.long 80], vm := .none },
  { cls := 26, slots := #[.long 81], vm := .none },
  { cls := 26, slots := #[.long 82], vm := .none },
  { cls := 26, slots := #[.long 83], vm := .none },
  { cls := 26, slots := #[.long 84], vm := .none },
  { cls := 26, slots := #[.long 85], vm := .none },
  { cls := 26, slots := #[.long 86], vm := .none },
  { cls := 26, slots := #[.long 87], vm := .none },
  { cls := 26, slots := #[.long 88], vm := .none },
  { cls := 26, slots := #[.long 89], vm := .none },
  { cls := 26, slots := #[.long 90], vm := .none },
  { cls := 26, slots := #[.long 91], vm := .none },
  { cls := 26, slots := #[.long 92], vm := .none },
  { cls := 26, slots := #[.long 93], vm := .none },
  { cls := 26, slots := #[.long 94], vm := .none },
  { cls := 26, slots := #[.long 95], vm := .none },
  { cls := 26, slots := #[.long 96], vm := .none },
  { cls := 26, slots := #[.long 97], vm := .none },
  { cls := 26, slots := #[.long 98], vm := .none },
  { cls := 26, slots := #[.long 99], vm := .none },
  { cls := 26, slots := #[.long 100], vm := .none },
  { cls := 26, slots := #[.long 101], vm := .none },
  { cls := 26, slots := #[.long 102], vm := .none },
  { cls := 26, slots := #[.long 103], vm := .none },
  { cls := 26, slots := #[.long 104], vm := .none },
  { cls := 26, slots := #[.long 105], vm := .none },
  { cls := 26, slots := #[.long 106], vm := .none },
  { cls := 26, slots := #[.long 107], vm := .none },
  { cls := 26, slots := #[.long 108], vm := .none },
  { cls := 26, slots := #[.long 109], vm := .none },
  { cls := 26, slots := #[.long 110], vm := .none },
  { cls := 26, slots := #[.long 111], vm := .none },
  { cls := 26, slots := #[.long 112], vm := .none },
  { cls := 26, slots := #[.long 113], vm := .none },
  { cls := 26, slots := #[.long 114], vm := .none },
  { cls := 26, slots := #[.long 115], vm := .none },
  { cls := 26, slots := #[.long 116], vm := .none },
  { cls := 26, slots := #[.long 117], vm := .none },
  { cls := 26, slots := #[.long 118], vm := .none },
  { cls := 26, slots := #[.long 119], vm := .none },
  { cls := 26, slots := #[.long 120], vm := .none },
  { cls := 26, slots := #[.long 121], vm := .none },
  { cls := 26, slots := #[.long 122], vm := .none },
  { cls := 26, slots := #[.long 123], vm := .none },
  { cls := 26, slots := #[.long 124], vm := .none },
  { cls := 26, slots := #[.long 125], vm := .none },
  { cls := 26, slots := #[.long 126], vm := .none },
  { cls := 26, slots := #[.long 127], vm := .none },
  { cls := 29, slots := #[.long 0, .int 0], vm := .none }]
def classes : Array Class := #[k0, k1, k2, k3, k4, k5, k6, k7, k8, k9, k10, k11, k12, k13, k14, k15, k16, k17, k18, k19, k20, k21, k22, k23, k24, k25, k26, k27, k28, k29, k30, k31, k32, k33, k34, k35, k36, k37]
def interned : List (Array UInt16 × Addr) := []
def slotsUsed : Nat := 541
def theMethod : MethodId := ⟨1, 1⟩
def args0 : Array Value := #[.int 5, .int 6, .long 7, .long 8, .long 9]
def aboutOver (below : List Frame) : State where
  vm := { classes := classes, interned := interned.toArray }
  heap := heap
  slotsUsed := slotsUsed
  threads := #[{ frames := .invoking theMethod args0 :: below }]
def below0 : List Frame := [.native { method := ⟨0, 0⟩, args := #[] }]
def about1 : State := aboutOver below0
def p0 : Program := .bare "" "" ""
def e0 : Env := launch0.env 0 0 0
theorem w_frames : about1.frames = Frame.invoking theMethod args0 :: below0 := rfl
set_option maxRecDepth 65536 in
theorem w_args : argsFit about1.vm theMethod args0 = true := by decide +kernel
set_option maxRecDepth 65536 in
theorem w_heap : heapFits about1 = true := by decide +kernel
set_option maxRecDepth 65536 in
theorem w_runnable : about1.curStatus? = some .runnable := by decide +kernel
set_option maxRecDepth 65536 in
theorem w_alone : about1.alone = true := by decide +kernel
set_option maxRecDepth 65536 in
theorem w_named : about1.methodNamed? x = some theMethod := by decide +kernel
set_option maxRecDepth 65536 in
theorem w_hears : about1.hears theMethod below0 = true := by decide +kernel
set_option maxRecDepth 65536 in
theorem w_ripe : about1.ripe theMethod args0 below0 = true := by decide +kernel
theorem w_running : about1.status = .running := rfl
set_option maxRecDepth 65536 in
theorem w_room : about1.hasRoom e0.platform room_1 = true :=
  launch0.hasRoom_least _ room_1 (by decide +kernel) (by decide +kernel) (by decide +kernel) (by decide +kernel) (by decide +kernel) (by decide +kernel)
theorem allAtoms_all (ts : List Jvm.Cond) (a : Array Jvm.Value) (st : Jvm.State) : (allAtoms ts).before a st = ts.all (fun c => c.before a st) := by
  induction ts with
  | nil => rfl
  | cons c t ih =>
    show (Jvm.Cond.and c (allAtoms t)).before a st = _
    rw [Jvm.Cond.before_and, ih, List.all_cons]
def words1 : List Jvm.Cond := Jvm.Cond.code x code maxLocals ret :: tables_1
/-- a 'code' word, met by the world's own term for the bytes: nothing is compared byte by byte -/
theorem code_word {y : MethodName} {bytes : ByteArray} {mx : Nat} {rt : Option FieldType} {a : Array Value} {s : State} {m : MethodId} {meth : Method} {c : Code} (h1 : s.methodNamed? y = some m) (h2 : s.vm.method? m = some meth) (h3 : meth.code = some c) (h4 : c.code = bytes)
    (h5 : (c.maxLocals == mx && c.exceptionTable.isEmpty && decide (c.maxStack ≤ mostOperands) && decide (meth.sig.returnType = rt) && !meth.locks && decide (parseMethodDescriptor y.desc = some meth.sig)) = true) : (Jvm.Cond.code y bytes mx rt).before a s = true := by
  simp only [Bool.and_eq_true, beq_iff_eq, Bool.not_eq_true', decide_eq_true_eq] at h5
  obtain ⟨⟨⟨⟨⟨g1, g2⟩, g3⟩, g4⟩, g5⟩, g6⟩ := h5
  simp [Cond.before, Cond.holds, Cond.value, h1, h2, h3, h4, g1, g2, g3, g4, g5, g6]
def isCode : Jvm.Cond → Bool
  | .code _ _ _ _ => true
  | _ => false
theorem all_split {L : List Jvm.Cond} {P : Jvm.Cond → Bool} (h1 : L.all (fun c => isCode c || P c) = true) (h2 : ∀ c ∈ L.filter isCode, P c = true) : L.all P = true := by
  refine List.all_eq_true.mpr fun c hc => ?_
  have h := List.all_eq_true.mp h1 c hc
  rcases Bool.eq_false_or_eq_true (isCode c) with hi | hi
  · exact h2 c (List.mem_filter.mpr ⟨hc, hi⟩)
  · simpa [hi] using h
set_option maxRecDepth 65536 in
theorem w_c0 : (Jvm.Cond.code x code maxLocals ret).before args0 about1 = true := code_word (m := ⟨1, 1⟩) (meth := k1m1) (c := k1c1) (by decide +kernel) rfl rfl rfl (by decide +kernel)
set_option maxRecDepth 65536 in
theorem w_c1 : (Jvm.Cond.code ({ cls := "java/lang/Math", name := "max", desc := "(II)I" } : Jvm.MethodName) jdk_29_method_65_code (2 : Nat) (Option.some Jvm.ClassFile.FieldType.int)).before args0 about1 = true := code_word (m := ⟨2, 1⟩) (meth := k2m1) (c := k2c1) (by decide +kernel) rfl rfl rfl (by decide +kernel)
set_option maxRecDepth 65536 in
theorem w_c2 : (Jvm.Cond.code ({ cls := "com/example/blend2/blend2/Rule", name := "<init>", desc := "(Ljava/lang/String;II)V" } : Jvm.MethodName) prog_10_method_2_code (4 : Nat) (Option.none : Option Jvm.ClassFile.FieldType)).before args0 about1 = true := code_word (m := ⟨6, 1⟩) (meth := k6m1) (c := k6c1) (by decide +kernel) rfl rfl rfl (by decide +kernel)
set_option maxRecDepth 65536 in
theorem w_c3 : (Jvm.Cond.code ({ cls := "com/example/blend2/blend2/Rule", name := "<init>", desc := "(Ljava/lang/String;IILcom/example/blend2/blend2/Algorithm;Lcom/example/blend2/blend2/StoreFailurePolicy;)V" } : Jvm.MethodName) prog_10_method_1_code (6 : Nat) (Option.none : Option Jvm.ClassFile.FieldType)).before args0 about1 = true := code_word (m := ⟨6, 0⟩) (meth := k6m0) (c := k6c0) (by decide +kernel) rfl rfl rfl (by decide +kernel)
set_option maxRecDepth 65536 in
theorem w_c4 : (Jvm.Cond.code ({ cls := "java/lang/Record", name := "<init>", desc := "()V" } : Jvm.MethodName) jdk_30_method_1_code (1 : Nat) (Option.none : Option Jvm.ClassFile.FieldType)).before args0 about1 = true := code_word (m := ⟨5, 0⟩) (meth := k5m0) (c := k5c0) (by decide +kernel) rfl rfl rfl (by decide +kernel)
set_option maxRecDepth 65536 in
theorem w_c5 : (Jvm.Cond.code ({ cls := "java/lang/Object", name := "<init>", desc := "()V" } : Jvm.MethodName) object_method_1_code (1 : Nat) (Option.none : Option Jvm.ClassFile.FieldType)).before args0 about1 = true := code_word (m := ⟨0, 0⟩) (meth := k0m0) (c := k0c0) (by decide +kernel) rfl rfl rfl (by decide +kernel)
set_option maxRecDepth 65536 in
theorem w_c6 : (Jvm.Cond.code ({ cls := "java/util/Objects", name := "requireNonNull", desc := "(Ljava/lang/Object;Ljava/lang/String;)Ljava/lang/Object;" } : Jvm.MethodName) jdk_31_method_11_code (2 : Nat) (Option.some (Jvm.ClassFile.FieldType.object "java/lang/Object"))).before args0 about1 = true := code_word (m := ⟨16, 2⟩) (meth := k16m2) (c := k16c2) (by decide +kernel) rfl rfl rfl (by decide +kernel)
set_option maxRecDepth 65536 in
theorem w_c7 : (Jvm.Cond.code ({ cls := "com/example/blend2/blend2/SlidingWindowLog", name := "<init>", desc := "(Lcom/example/blend2/blend2/Rule;)V" } : Jvm.MethodName) prog_12_method_1_code (2 : Nat) (Option.none : Option Jvm.ClassFile.FieldType)).before args0 about1 = true := code_word (m := ⟨4, 0⟩) (meth := k4m0) (c := k4c0) (by decide +kernel) rfl rfl rfl (by decide +kernel)
set_option maxRecDepth 65536 in
theorem w_c8 : (Jvm.Cond.code ({ cls := "java/util/ArrayDeque", name := "<init>", desc := "()V" } : Jvm.MethodName) jdk_21_method_3_code (1 : Nat) (Option.none : Option Jvm.ClassFile.FieldType)).before args0 about1 = true := code_word (m := ⟨24, 0⟩) (meth := k24m0) (c := k24c0) (by decide +kernel) rfl rfl rfl (by decide +kernel)
set_option maxRecDepth 65536 in
theorem w_c9 : (Jvm.Cond.code ({ cls := "java/util/AbstractCollection", name := "<init>", desc := "()V" } : Jvm.MethodName) jdk_22_method_1_code (1 : Nat) (Option.none : Option Jvm.ClassFile.FieldType)).before args0 about1 = true := code_word (m := ⟨19, 0⟩) (meth := k19m0) (c := k19c0) (by decide +kernel) rfl rfl rfl (by decide +kernel)
set_option maxRecDepth 65536 in
theorem w_c10 : (Jvm.Cond.code ({ cls := "com/example/blend2/blend2/Rule", name := "timeWindowSec", desc := "()I" } : Jvm.MethodName) prog_10_method_8_code (1 : Nat) (Option.some Jvm.ClassFile.FieldType.int)).before args0 about1 = true := code_word (m := ⟨6, 3⟩) (meth := k6m3) (c := k6c3) (by decide +kernel) rfl rfl rfl (by decide +kernel)
set_option maxRecDepth 65536 in
theorem w_c11 : (Jvm.Cond.code ({ cls := "com/example/blend2/blend2/SlidingWindowLog", name := "isIdleAt", desc := "(J)Z" } : Jvm.MethodName) prog_12_method_3_code (3 : Nat) (Option.some Jvm.ClassFile.FieldType.boolean)).before args0 about1 = true := code_word (m := ⟨4, 2⟩) (meth := k4m2) (c := k4c2) (by decide +kernel) rfl rfl rfl (by decide +kernel)
set_option maxRecDepth 65536 in
theorem w_c12 : (Jvm.Cond.code ({ cls := "java/util/ArrayDeque", name := "isEmpty", desc := "()Z" } : Jvm.MethodName) jdk_21_method_38_code (1 : Nat) (Option.some Jvm.ClassFile.FieldType.boolean)).before args0 about1 = true := code_word (m := ⟨24, 11⟩) (meth := k24m11) (c := k24c11) (by decide +kernel) rfl rfl rfl (by decide +kernel)
set_option maxRecDepth 65536 in
theorem w_c13 : (Jvm.Cond.code ({ cls := "com/example/blend2/blend2/SlidingWindowLog", name := "decide", desc := "(J)Lcom/example/blend2/blend2/Decision;" } : Jvm.MethodName) prog_12_method_2_code (8 : Nat) (Option.some (Jvm.ClassFile.FieldType.object "com/example/blend2/blend2/Decision"))).before args0 about1 = true := code_word (m := ⟨4, 1⟩) (meth := k4m1) (c := k4c1) (by decide +kernel) rfl rfl rfl (by decide +kernel)
set_option maxRecDepth 65536 in
theorem w_c14 : (Jvm.Cond.code ({ cls := "java/util/ArrayDeque", name := "size", desc := "()I" } : Jvm.MethodName) jdk_21_method_37_code (1 : Nat) (Option.some Jvm.ClassFile.FieldType.int)).before args0 about1 = true := code_word (m := ⟨24, 10⟩) (meth := k24m10) (c := k24c10) (by decide +kernel) rfl rfl rfl (by decide +kernel)
set_option maxRecDepth 65536 in
theorem w_c15 : (Jvm.Cond.code ({ cls := "java/util/ArrayDeque", name := "sub", desc := "(III)I" } : Jvm.MethodName) jdk_21_method_9_code (3 : Nat) (Option.some Jvm.ClassFile.FieldType.int)).before args0 about1 = true := code_word (m := ⟨24, 3⟩) (meth := k24m3) (c := k24c3) (by decide +kernel) rfl rfl rfl (by decide +kernel)
set_option maxRecDepth 65536 in
theorem w_c16 : (Jvm.Cond.code ({ cls := "com/example/blend2/blend2/Rule", name := "capacity", desc := "()I" } : Jvm.MethodName) prog_10_method_7_code (1 : Nat) (Option.some Jvm.ClassFile.FieldType.int)).before args0 about1 = true := code_word (m := ⟨6, 2⟩) (meth := k6m2) (c := k6c2) (by decide +kernel) rfl rfl rfl (by decide +kernel)
set_option maxRecDepth 65536 in
theorem w_c17 : (Jvm.Cond.code ({ cls := "java/lang/Long", name := "valueOf", desc := "(J)Ljava/lang/Long;" } : Jvm.MethodName) jdk_35_method_24_code (3 : Nat) (Option.some (Jvm.ClassFile.FieldType.object "java/lang/Long"))).before args0 about1 = true := code_word (m := ⟨26, 0⟩) (meth := k26m0) (c := k26c0) (by decide +kernel) rfl rfl rfl (by decide +kernel)
set_option maxRecDepth 65536 in
theorem w_c18 : (Jvm.Cond.code ({ cls := "java/lang/Long", name := "<init>", desc := "(J)V" } : Jvm.MethodName) jdk_35_method_26_code (3 : Nat) (Option.none : Option Jvm.ClassFile.FieldType)).before args0 about1 = true := code_word (m := ⟨26, 1⟩) (meth := k26m1) (c := k26c1) (by decide +kernel) rfl rfl rfl (by decide +kernel)
set_option maxRecDepth 65536 in
theorem w_c19 : (Jvm.Cond.code ({ cls := "java/lang/Number", name := "<init>", desc := "()V" } : Jvm.MethodName) jdk_18_method_1_code (1 : Nat) (Option.none : Option Jvm.ClassFile.FieldType)).before args0 about1 = true := code_word (m := ⟨25, 0⟩) (meth := k25m0) (c := k25c0) (by decide +kernel) rfl rfl rfl (by decide +kernel)
set_option maxRecDepth 65536 in
theorem w_c20 : (Jvm.Cond.code ({ cls := "java/util/ArrayDeque", name := "addLast", desc := "(Ljava/lang/Object;)V" } : Jvm.MethodName) jdk_21_method_13_code (3 : Nat) (Option.none : Option Jvm.ClassFile.FieldType)).before args0 about1 = true := code_word (m := ⟨24, 5⟩) (meth := k24m5) (c := k24c5) (by decide +kernel) rfl rfl rfl (by decide +kernel)
set_option maxRecDepth 65536 in
theorem w_c21 : (Jvm.Cond.code ({ cls := "java/util/ArrayDeque", name := "inc", desc := "(II)I" } : Jvm.MethodName) jdk_21_method_6_code (2 : Nat) (Option.some Jvm.ClassFile.FieldType.int)).before args0 about1 = true := code_word (m := ⟨24, 1⟩) (meth := k24m1) (c := k24c1) (by decide +kernel) rfl rfl rfl (by decide +kernel)
set_option maxRecDepth 65536 in
theorem w_c22 : (Jvm.Cond.code ({ cls := "com/example/blend2/blend2/Decision", name := "admitted", desc := "(Lcom/example/blend2/blend2/Rule;I)Lcom/example/blend2/blend2/Decision;" } : Jvm.MethodName) prog_2_method_3_code (2 : Nat) (Option.some (Jvm.ClassFile.FieldType.object "com/example/blend2/blend2/Decision"))).before args0 about1 = true := code_word (m := ⟨27, 1⟩) (meth := k27m1) (c := k27c1) (by decide +kernel) rfl rfl rfl (by decide +kernel)
set_option maxRecDepth 65536 in
theorem w_c23 : (Jvm.Cond.code ({ cls := "com/example/blend2/blend2/Decision", name := "admitted", desc := "(Lcom/example/blend2/blend2/Rule;ILjava/time/Duration;)Lcom/example/blend2/blend2/Decision;" } : Jvm.MethodName) prog_2_method_4_code (3 : Nat) (Option.some (Jvm.ClassFile.FieldType.object "com/example/blend2/blend2/Decision"))).before args0 about1 = true := code_word (m := ⟨27, 2⟩) (meth := k27m2) (c := k27c2) (by decide +kernel) rfl rfl rfl (by decide +kernel)
set_option maxRecDepth 65536 in
theorem w_c24 : (Jvm.Cond.code ({ cls := "java/util/Optional", name := "of", desc := "(Ljava/lang/Object;)Ljava/util/Optional;" } : Jvm.MethodName) jdk_32_method_3_code (1 : Nat) (Option.some (Jvm.ClassFile.FieldType.object "java/util/Optional"))).before args0 about1 = true := code_word (m := ⟨30, 1⟩) (meth := k30m1) (c := k30c1) (by decide +kernel) rfl rfl rfl (by decide +kernel)
set_option maxRecDepth 65536 in
theorem w_c25 : (Jvm.Cond.code ({ cls := "java/util/Objects", name := "requireNonNull", desc := "(Ljava/lang/Object;)Ljava/lang/Object;" } : Jvm.MethodName) jdk_31_method_10_code (1 : Nat) (Option.some (Jvm.ClassFile.FieldType.object "java/lang/Object"))).before args0 about1 = true := code_word (m := ⟨16, 1⟩) (meth := k16m1) (c := k16c1) (by decide +kernel) rfl rfl rfl (by decide +kernel)
set_option maxRecDepth 65536 in
theorem w_c26 : (Jvm.Cond.code ({ cls := "java/util/Optional", name := "<init>", desc := "(Ljava/lang/Object;)V" } : Jvm.MethodName) jdk_32_method_2_code (2 : Nat) (Option.none : Option Jvm.ClassFile.FieldType)).before args0 about1 = true := code_word (m := ⟨30, 0⟩) (meth := k30m0) (c := k30c0) (by decide +kernel) rfl rfl rfl (by decide +kernel)
set_option maxRecDepth 65536 in
theorem w_c27 : (Jvm.Cond.code ({ cls := "com/example/blend2/blend2/Decision", name := "<init>", desc := "(ZLjava/util/Optional;ILjava/time/Duration;Ljava/time/Duration;Z)V" } : Jvm.MethodName) prog_2_method_1_code (7 : Nat) (Option.none : Option Jvm.ClassFile.FieldType)).before args0 about1 = true := code_word (m := ⟨27, 0⟩) (meth := k27m0) (c := k27c0) (by decide +kernel) rfl rfl rfl (by decide +kernel)
set_option maxRecDepth 65536 in
theorem w_c28 : (Jvm.Cond.code ({ cls := "java/time/Duration", name := "isNegative", desc := "()Z" } : Jvm.MethodName) jdk_2316_method_22_code (1 : Nat) (Option.some Jvm.ClassFile.FieldType.boolean)).before args0 about1 = true := code_word (m := ⟨29, 3⟩) (meth := k29m3) (c := k29c3) (by decide +kernel) rfl rfl rfl (by decide +kernel)
set_option maxRecDepth 65536 in
theorem w_c29 : (Jvm.Cond.code ({ cls := "java/util/ArrayDeque", name := "peekFirst", desc := "()Ljava/lang/Object;" } : Jvm.MethodName) jdk_21_method_24_code (1 : Nat) (Option.some (Jvm.ClassFile.FieldType.object "java/lang/Object"))).before args0 about1 = true := code_word (m := ⟨24, 8⟩) (meth := k24m8) (c := k24c8) (by decide +kernel) rfl rfl rfl (by decide +kernel)
set_option maxRecDepth 65536 in
theorem w_c30 : (Jvm.Cond.code ({ cls := "java/util/ArrayDeque", name := "elementAt", desc := "([Ljava/lang/Object;I)Ljava/lang/Object;" } : Jvm.MethodName) jdk_21_method_10_code (2 : Nat) (Option.some (Jvm.ClassFile.FieldType.object "java/lang/Object"))).before args0 about1 = true := code_word (m := ⟨24, 4⟩) (meth := k24m4) (c := k24c4) (by decide +kernel) rfl rfl rfl (by decide +kernel)
set_option maxRecDepth 65536 in
theorem w_c31 : (Jvm.Cond.code ({ cls := "java/lang/Long", name := "longValue", desc := "()J" } : Jvm.MethodName) jdk_35_method_31_code (1 : Nat) (Option.some Jvm.ClassFile.FieldType.long)).before args0 about1 = true := code_word (m := ⟨26, 2⟩) (meth := k26m2) (c := k26c2) (by decide +kernel) rfl rfl rfl (by decide +kernel)
set_option maxRecDepth 65536 in
theorem w_c32 : (Jvm.Cond.code ({ cls := "java/util/ArrayDeque", name := "removeFirst", desc := "()Ljava/lang/Object;" } : Jvm.MethodName) jdk_21_method_18_code (2 : Nat) (Option.some (Jvm.ClassFile.FieldType.object "java/lang/Object"))).before args0 about1 = true := code_word (m := ⟨24, 6⟩) (meth := k24m6) (c := k24c6) (by decide +kernel) rfl rfl rfl (by decide +kernel)
set_option maxRecDepth 65536 in
theorem w_c33 : (Jvm.Cond.code ({ cls := "java/util/ArrayDeque", name := "pollFirst", desc := "()Ljava/lang/Object;" } : Jvm.MethodName) jdk_21_method_20_code (4 : Nat) (Option.some (Jvm.ClassFile.FieldType.object "java/lang/Object"))).before args0 about1 = true := code_word (m := ⟨24, 7⟩) (meth := k24m7) (c := k24c7) (by decide +kernel) rfl rfl rfl (by decide +kernel)
set_option maxRecDepth 65536 in
theorem w_c34 : (Jvm.Cond.code ({ cls := "java/util/ArrayDeque", name := "peekLast", desc := "()Ljava/lang/Object;" } : Jvm.MethodName) jdk_21_method_25_code (2 : Nat) (Option.some (Jvm.ClassFile.FieldType.object "java/lang/Object"))).before args0 about1 = true := code_word (m := ⟨24, 9⟩) (meth := k24m9) (c := k24c9) (by decide +kernel) rfl rfl rfl (by decide +kernel)
set_option maxRecDepth 65536 in
theorem w_c35 : (Jvm.Cond.code ({ cls := "java/util/ArrayDeque", name := "dec", desc := "(II)I" } : Jvm.MethodName) jdk_21_method_7_code (2 : Nat) (Option.some Jvm.ClassFile.FieldType.int)).before args0 about1 = true := code_word (m := ⟨24, 2⟩) (meth := k24m2) (c := k24c2) (by decide +kernel) rfl rfl rfl (by decide +kernel)
set_option maxRecDepth 65536 in
theorem w_c36 : (Jvm.Cond.code ({ cls := "java/time/Duration", name := "ofMillis", desc := "(J)Ljava/time/Duration;" } : Jvm.MethodName) jdk_2316_method_6_code (5 : Nat) (Option.some (Jvm.ClassFile.FieldType.object "java/time/Duration"))).before args0 about1 = true := code_word (m := ⟨29, 0⟩) (meth := k29m0) (c := k29c0) (by decide +kernel) rfl rfl rfl (by decide +kernel)
set_option maxRecDepth 65536 in
theorem w_c37 : (Jvm.Cond.code ({ cls := "java/time/Duration", name := "create", desc := "(JI)Ljava/time/Duration;" } : Jvm.MethodName) jdk_2316_method_16_code (3 : Nat) (Option.some (Jvm.ClassFile.FieldType.object "java/time/Duration"))).before args0 about1 = true := code_word (m := ⟨29, 1⟩) (meth := k29m1) (c := k29c1) (by decide +kernel) rfl rfl rfl (by decide +kernel)
set_option maxRecDepth 65536 in
theorem w_c38 : (Jvm.Cond.code ({ cls := "java/time/Duration", name := "<init>", desc := "(JI)V" } : Jvm.MethodName) jdk_2316_method_17_code (4 : Nat) (Option.none : Option Jvm.ClassFile.FieldType)).before args0 about1 = true := code_word (m := ⟨29, 2⟩) (meth := k29m2) (c := k29c2) (by decide +kernel) rfl rfl rfl (by decide +kernel)
set_option maxRecDepth 65536 in
theorem w_c39 : (Jvm.Cond.code ({ cls := "com/example/blend2/blend2/Decision", name := "refused", desc := "(Lcom/example/blend2/blend2/Rule;Ljava/time/Duration;)Lcom/example/blend2/blend2/Decision;" } : Jvm.MethodName) prog_2_method_5_code (2 : Nat) (Option.some (Jvm.ClassFile.FieldType.object "com/example/blend2/blend2/Decision"))).before args0 about1 = true := code_word (m := ⟨27, 3⟩) (meth := k27m3) (c := k27c3) (by decide +kernel) rfl rfl rfl (by decide +kernel)
def codes1 : List Jvm.Cond := [Jvm.Cond.code x code maxLocals ret, Jvm.Cond.code ({ cls := "java/lang/Math", name := "max", desc := "(II)I" } : Jvm.MethodName) jdk_29_method_65_code (2 : Nat) (Option.some Jvm.ClassFile.FieldType.int), Jvm.Cond.code ({ cls := "com/example/blend2/blend2/Rule", name := "<init>", desc := "(Ljava/lang/String;II)V" } : Jvm.MethodName) prog_10_method_2_code (4 : Nat) (Option.none : Option Jvm.ClassFile.FieldType), Jvm.Cond.code ({ cls := "com/example/blend2/blend2/Rule", name := "<init>", desc := "(Ljava/lang/String;IILcom/example/blend2/blend2/Algorithm;Lcom/example/blend2/blend2/StoreFailurePolicy;)V" } : Jvm.MethodName) prog_10_method_1_code (6 : Nat) (Option.none : Option Jvm.ClassFile.FieldType), Jvm.Cond.code ({ cls := "java/lang/Record", name := "<init>", desc := "()V" } : Jvm.MethodName) jdk_30_method_1_code (1 : Nat) (Option.none : Option Jvm.ClassFile.FieldType), Jvm.Cond.code ({ cls := "java/lang/Object", name := "<init>", desc := "()V" } : Jvm.MethodName) object_method_1_code (1 : Nat) (Option.none : Option Jvm.ClassFile.FieldType), Jvm.Cond.code ({ cls := "java/util/Objects", name := "requireNonNull", desc := "(Ljava/lang/Object;Ljava/lang/String;)Ljava/lang/Object;" } : Jvm.MethodName) jdk_31_method_11_code (2 : Nat) (Option.some (Jvm.ClassFile.FieldType.object "java/lang/Object")), Jvm.Cond.code ({ cls := "com/example/blend2/blend2/SlidingWindowLog", name := "<init>", desc := "(Lcom/example/blend2/blend2/Rule;)V" } : Jvm.MethodName) prog_12_method_1_code (2 : Nat) (Option.none : Option Jvm.ClassFile.FieldType), Jvm.Cond.code ({ cls := "java/util/ArrayDeque", name := "<init>", desc := "()V" } : Jvm.MethodName) jdk_21_method_3_code (1 : Nat) (Option.none : Option Jvm.ClassFile.FieldType), Jvm.Cond.code ({ cls := "java/util/AbstractCollection", name := "<init>", desc := "()V" } : Jvm.MethodName) jdk_22_method_1_code (1 : Nat) (Option.none : Option Jvm.ClassFile.FieldType), Jvm.Cond.code ({ cls := "com/example/blend2/blend2/Rule", name := "timeWindowSec", desc := "()I" } : Jvm.MethodName) prog_10_method_8_code (1 : Nat) (Option.some Jvm.ClassFile.FieldType.int), Jvm.Cond.code ({ cls := "com/example/blend2/blend2/SlidingWindowLog", name := "isIdleAt", desc := "(J)Z" } : Jvm.MethodName) prog_12_method_3_code (3 : Nat) (Option.some Jvm.ClassFile.FieldType.boolean), Jvm.Cond.code ({ cls := "java/util/ArrayDeque", name := "isEmpty", desc := "()Z" } : Jvm.MethodName) jdk_21_method_38_code (1 : Nat) (Option.some Jvm.ClassFile.FieldType.boolean), Jvm.Cond.code ({ cls := "com/example/blend2/blend2/SlidingWindowLog", name := "decide", desc := "(J)Lcom/example/blend2/blend2/Decision;" } : Jvm.MethodName) prog_12_method_2_code (8 : Nat) (Option.some (Jvm.ClassFile.FieldType.object "com/example/blend2/blend2/Decision")), Jvm.Cond.code ({ cls := "java/util/ArrayDeque", name := "size", desc := "()I" } : Jvm.MethodName) jdk_21_method_37_code (1 : Nat) (Option.some Jvm.ClassFile.FieldType.int), Jvm.Cond.code ({ cls := "java/util/ArrayDeque", name := "sub", desc := "(III)I" } : Jvm.MethodName) jdk_21_method_9_code (3 : Nat) (Option.some Jvm.ClassFile.FieldType.int), Jvm.Cond.code ({ cls := "com/example/blend2/blend2/Rule", name := "capacity", desc := "()I" } : Jvm.MethodName) prog_10_method_7_code (1 : Nat) (Option.some Jvm.ClassFile.FieldType.int), Jvm.Cond.code ({ cls := "java/lang/Long", name := "valueOf", desc := "(J)Ljava/lang/Long;" } : Jvm.MethodName) jdk_35_method_24_code (3 : Nat) (Option.some (Jvm.ClassFile.FieldType.object "java/lang/Long")), Jvm.Cond.code ({ cls := "java/lang/Long", name := "<init>", desc := "(J)V" } : Jvm.MethodName) jdk_35_method_26_code (3 : Nat) (Option.none : Option Jvm.ClassFile.FieldType), Jvm.Cond.code ({ cls := "java/lang/Number", name := "<init>", desc := "()V" } : Jvm.MethodName) jdk_18_method_1_code (1 : Nat) (Option.none : Option Jvm.ClassFile.FieldType), Jvm.Cond.code ({ cls := "java/util/ArrayDeque", name := "addLast", desc := "(Ljava/lang/Object;)V" } : Jvm.MethodName) jdk_21_method_13_code (3 : Nat) (Option.none : Option Jvm.ClassFile.FieldType), Jvm.Cond.code ({ cls := "java/util/ArrayDeque", name := "inc", desc := "(II)I" } : Jvm.MethodName) jdk_21_method_6_code (2 : Nat) (Option.some Jvm.ClassFile.FieldType.int), Jvm.Cond.code ({ cls := "com/example/blend2/blend2/Decision", name := "admitted", desc := "(Lcom/example/blend2/blend2/Rule;I)Lcom/example/blend2/blend2/Decision;" } : Jvm.MethodName) prog_2_method_3_code (2 : Nat) (Option.some (Jvm.ClassFile.FieldType.object "com/example/blend2/blend2/Decision")), Jvm.Cond.code ({ cls := "com/example/blend2/blend2/Decision", name := "admitted", desc := "(Lcom/example/blend2/blend2/Rule;ILjava/time/Duration;)Lcom/example/blend2/blend2/Decision;" } : Jvm.MethodName) prog_2_method_4_code (3 : Nat) (Option.some (Jvm.ClassFile.FieldType.object "com/example/blend2/blend2/Decision")), Jvm.Cond.code ({ cls := "java/util/Optional", name := "of", desc := "(Ljava/lang/Object;)Ljava/util/Optional;" } : Jvm.MethodName) jdk_32_method_3_code (1 : Nat) (Option.some (Jvm.ClassFile.FieldType.object "java/util/Optional")), Jvm.Cond.code ({ cls := "java/util/Objects", name := "requireNonNull", desc := "(Ljava/lang/Object;)Ljava/lang/Object;" } : Jvm.MethodName) jdk_31_method_10_code (1 : Nat) (Option.some (Jvm.ClassFile.FieldType.object "java/lang/Object")), Jvm.Cond.code ({ cls := "java/util/Optional", name := "<init>", desc := "(Ljava/lang/Object;)V" } : Jvm.MethodName) jdk_32_method_2_code (2 : Nat) (Option.none : Option Jvm.ClassFile.FieldType), Jvm.Cond.code ({ cls := "com/example/blend2/blend2/Decision", name := "<init>", desc := "(ZLjava/util/Optional;ILjava/time/Duration;Ljava/time/Duration;Z)V" } : Jvm.MethodName) prog_2_method_1_code (7 : Nat) (Option.none : Option Jvm.ClassFile.FieldType), Jvm.Cond.code ({ cls := "java/time/Duration", name := "isNegative", desc := "()Z" } : Jvm.MethodName) jdk_2316_method_22_code (1 : Nat) (Option.some Jvm.ClassFile.FieldType.boolean), Jvm.Cond.code ({ cls := "java/util/ArrayDeque", name := "peekFirst", desc := "()Ljava/lang/Object;" } : Jvm.MethodName) jdk_21_method_24_code (1 : Nat) (Option.some (Jvm.ClassFile.FieldType.object "java/lang/Object")), Jvm.Cond.code ({ cls := "java/util/ArrayDeque", name := "elementAt", desc := "([Ljava/lang/Object;I)Ljava/lang/Object;" } : Jvm.MethodName) jdk_21_method_10_code (2 : Nat) (Option.some (Jvm.ClassFile.FieldType.object "java/lang/Object")), Jvm.Cond.code ({ cls := "java/lang/Long", name := "longValue", desc := "()J" } : Jvm.MethodName) jdk_35_method_31_code (1 : Nat) (Option.some Jvm.ClassFile.FieldType.long), Jvm.Cond.code ({ cls := "java/util/ArrayDeque", name := "removeFirst", desc := "()Ljava/lang/Object;" } : Jvm.MethodName) jdk_21_method_18_code (2 : Nat) (Option.some (Jvm.ClassFile.FieldType.object "java/lang/Object")), Jvm.Cond.code ({ cls := "java/util/ArrayDeque", name := "pollFirst", desc := "()Ljava/lang/Object;" } : Jvm.MethodName) jdk_21_method_20_code (4 : Nat) (Option.some (Jvm.ClassFile.FieldType.object "java/lang/Object")), Jvm.Cond.code ({ cls := "java/util/ArrayDeque", name := "peekLast", desc := "()Ljava/lang/Object;" } : Jvm.MethodName) jdk_21_method_25_code (2 : Nat) (Option.some (Jvm.ClassFile.FieldType.object "java/lang/Object")), Jvm.Cond.code ({ cls := "java/util/ArrayDeque", name := "dec", desc := "(II)I" } : Jvm.MethodName) jdk_21_method_7_code (2 : Nat) (Option.some Jvm.ClassFile.FieldType.int), Jvm.Cond.code ({ cls := "java/time/Duration", name := "ofMillis", desc := "(J)Ljava/time/Duration;" } : Jvm.MethodName) jdk_2316_method_6_code (5 : Nat) (Option.some (Jvm.ClassFile.FieldType.object "java/time/Duration")), Jvm.Cond.code ({ cls := "java/time/Duration", name := "create", desc := "(JI)Ljava/time/Duration;" } : Jvm.MethodName) jdk_2316_method_16_code (3 : Nat) (Option.some (Jvm.ClassFile.FieldType.object "java/time/Duration")), Jvm.Cond.code ({ cls := "java/time/Duration", name := "<init>", desc := "(JI)V" } : Jvm.MethodName) jdk_2316_method_17_code (4 : Nat) (Option.none : Option Jvm.ClassFile.FieldType), Jvm.Cond.code ({ cls := "com/example/blend2/blend2/Decision", name := "refused", desc := "(Lcom/example/blend2/blend2/Rule;Ljava/time/Duration;)Lcom/example/blend2/blend2/Decision;" } : Jvm.MethodName) prog_2_method_5_code (2 : Nat) (Option.some (Jvm.ClassFile.FieldType.object "com/example/blend2/blend2/Decision"))]
set_option maxRecDepth 65536 in
theorem codes_eq : words1.filter isCode = codes1 := rfl
theorem w_codes : ∀ c ∈ words1.filter isCode, c.before args0 about1 = true := by
  rw [codes_eq]
  intro c hc
  simp only [codes1, List.mem_cons, List.not_mem_nil, or_false] at hc
  rcases hc with rfl | rfl | rfl | rfl | rfl | rfl | rfl | rfl | rfl | rfl | rfl | rfl | rfl | rfl | rfl | rfl | rfl | rfl | rfl | rfl | rfl | rfl | rfl | rfl | rfl | rfl | rfl | rfl | rfl | rfl | rfl | rfl | rfl | rfl | rfl | rfl | rfl | rfl | rfl | rfl
  · exact w_c0
  · exact w_c1
  · exact w_c2
  · exact w_c3
  · exact w_c4
  · exact w_c5
  · exact w_c6
  · exact w_c7
  · exact w_c8
  · exact w_c9
  · exact w_c10
  · exact w_c11
  · exact w_c12
  · exact w_c13
  · exact w_c14
  · exact w_c15
  · exact w_c16
  · exact w_c17
  · exact w_c18
  · exact w_c19
  · exact w_c20
  · exact w_c21
  · exact w_c22
  · exact w_c23
  · exact w_c24
  · exact w_c25
  · exact w_c26
  · exact w_c27
  · exact w_c28
  · exact w_c29
  · exact w_c30
  · exact w_c31
  · exact w_c32
  · exact w_c33
  · exact w_c34
  · exact w_c35
  · exact w_c36
  · exact w_c37
  · exact w_c38
  · exact w_c39
set_option maxRecDepth 65536 in
theorem w_t1 : (words1.take 24).all (fun c => isCode c || c.before args0 about1) = true := by decide +kernel
set_option maxRecDepth 65536 in
theorem w_t2 : ((words1.drop 24).take 24).all (fun c => isCode c || c.before args0 about1) = true := by decide +kernel
set_option maxRecDepth 65536 in
theorem w_t3 : (((words1.drop 24).drop 24).take 24).all (fun c => isCode c || c.before args0 about1) = true := by decide +kernel
set_option maxRecDepth 65536 in
theorem w_t4 : ((((words1.drop 24).drop 24).drop 24).take 24).all (fun c => isCode c || c.before args0 about1) = true := by decide +kernel
set_option maxRecDepth 65536 in
theorem w_t5 : (((((words1.drop 24).drop 24).drop 24).drop 24).take 24).all (fun c => isCode c || c.before args0 about1) = true := by decide +kernel
set_option maxRecDepth 65536 in
theorem w_t6 : ((((((words1.drop 24).drop 24).drop 24).drop 24).drop 24).take 24).all (fun c => isCode c || c.before args0 about1) = true := by decide +kernel
set_option maxRecDepth 65536 in
theorem w_t7 : (((((((words1.drop 24).drop 24).drop 24).drop 24).drop 24).drop 24).take 24).all (fun c => isCode c || c.before args0 about1) = true := by decide +kernel
set_option maxRecDepth 65536 in
theorem w_t8 : ((((((((words1.drop 24).drop 24).drop 24).drop 24).drop 24).drop 24).drop 24).take 24).all (fun c => isCode c || c.before args0 about1) = true := by decide +kernel
set_option maxRecDepth 65536 in
theorem w_t9 : (((((((((words1.drop 24).drop 24).drop 24).drop 24).drop 24).drop 24).drop 24).drop 24).take 24).all (fun c => isCode c || c.before args0 about1) = true := by decide +kernel
set_option maxRecDepth 65536 in
theorem w_t10 : ((((((((((words1.drop 24).drop 24).drop 24).drop 24).drop 24).drop 24).drop 24).drop 24).drop 24).take 24).all (fun c => isCode c || c.before args0 about1) = true := by decide +kernel
set_option maxRecDepth 65536 in
theorem w_t11 : (((((((((((words1.drop 24).drop 24).drop 24).drop 24).drop 24).drop 24).drop 24).drop 24).drop 24).drop 24).take 24).all (fun c => isCode c || c.before args0 about1) = true := by decide +kernel
set_option maxRecDepth 65536 in
theorem w_t12 : (((((((((((words1.drop 24).drop 24).drop 24).drop 24).drop 24).drop 24).drop 24).drop 24).drop 24).drop 24).drop 24).all (fun c => isCode c || c.before args0 about1) = true := by decide +kernel
theorem w_tables : (allAtoms (Jvm.Cond.code x code maxLocals ret :: tables_1)).before args0 about1 = true := by
  rw [allAtoms_all]
  show words1.all (fun c => c.before args0 about1) = true
  refine all_split ?_ w_codes
  rw [← List.take_append_drop 24 words1, List.all_append, w_t1, ← List.take_append_drop 24 (words1.drop 24), List.all_append, w_t2, ← List.take_append_drop 24 ((words1.drop 24).drop 24), List.all_append, w_t3, ← List.take_append_drop 24 (((words1.drop 24).drop 24).drop 24), List.all_append, w_t4, ← List.take_append_drop 24 ((((words1.drop 24).drop 24).drop 24).drop 24), List.all_append, w_t5, ← List.take_append_drop 24 (((((words1.drop 24).drop 24).drop 24).drop 24).drop 24), List.all_append, w_t6, ← List.take_append_drop 24 ((((((words1.drop 24).drop 24).drop 24).drop 24).drop 24).drop 24), List.all_append, w_t7, ← List.take_append_drop 24 (((((((words1.drop 24).drop 24).drop 24).drop 24).drop 24).drop 24).drop 24), List.all_append, w_t8, ← List.take_append_drop 24 ((((((((words1.drop 24).drop 24).drop 24).drop 24).drop 24).drop 24).drop 24).drop 24), List.all_append, w_t9, ← List.take_append_drop 24 (((((((((words1.drop 24).drop 24).drop 24).drop 24).drop 24).drop 24).drop 24).drop 24).drop 24), List.all_append, w_t10, ← List.take_append_drop 24 ((((((((((words1.drop 24).drop 24).drop 24).drop 24).drop 24).drop 24).drop 24).drop 24).drop 24).drop 24), List.all_append, w_t11, w_t12]
  rfl
set_option maxRecDepth 65536 in
theorem w_rest : rest_1_c.before args0 about1 = true := by decide +kernel
set_option maxRecDepth 65536 in
theorem w_case : (Jvm.Cond.and given_1 narrow_1).before args0 about1 = true := by decide +kernel
theorem w_applies : (headSpec (Jvm.Cond.code x code maxLocals ret :: tables_1) room_1).applies x e0.platform about1 = true :=
  (Spec.applies_iff w_frames).mpr ⟨w_running, w_runnable, w_alone, w_named, w_hears, w_ripe, w_room, w_tables⟩
theorem atStart : AtStart classFile x code maxLocals ret World_1 tables_1 room_1 Calls_1 rest_1 Pre_1 launch0 p0 e0 about1 theMethod args0 below0 :=
  ⟨lists_1, trivial, launch0.admits_env _ _ _, launch0.least_env, fairChoices_fair.cas, fairChoices_fair.clock, w_frames, w_args, w_heap, w_applies, trivial, w_rest, w_case⟩
end start1
theorem witness_1 : WitnessClaimed_1 := ⟨start1.p0, start1.e0, start1.about1, start1.theMethod, start1.args0, start1.below0, start1.atStart⟩
end Jvm.Pilot.@@N@@
